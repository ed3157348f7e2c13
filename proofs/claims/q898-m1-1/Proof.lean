import JvmDerived
import JvmDerived.Pilot.@@N@@Statement
import JvmDerived.Pilot.@@N@@Code
set_option linter.unusedVariables false
set_option linter.unusedSimpArgs false
namespace Jvm.Pilot.@@N@@
open Jvm Jvm.ClassFile Sem Op Lib Jvm.Free Jvm.Stand Jvm.LawKit Jvm.RoadKit Bundle Jvm.Pilot.@@N@@.Jvm.D
/-! own layer: the walk goes forward; own_G S: from S the body ends as F says -/
def own_G (tb : Tables) (e : Env) (below : List Frame) (F : Outcome → State → Prop) (S : State) : Prop :=
  ∃ s₂ o, Steps tb e below S s₂ ∧ s₂.status = .running ∧ Ended s₂ below o ∧ F o s₂
theorem own_go {tb : Tables} {e : Env} {below : List Frame} {F : Outcome → State → Prop} {A B : State} (st : ∀ t, Steps tb e below B t → Steps tb e below A t) (h : own_G tb e below F B) : own_G tb e below F A := by
  obtain ⟨t, o, h1, h2⟩ := h
  exact ⟨t, o, st t h1, h2⟩
theorem own_tr {tb : Tables} {e : Env} {below : List Frame} {F : Outcome → State → Prop} {A B : State} (st : Steps tb e below A B) (h : own_G tb e below F B) : own_G tb e below F A := own_go (fun _ k => st.trans k) h
theorem own_b {n k : Nat} (h : Nat.ble n k = true) : n ≤ k := Nat.le_of_ble_eq_true h
def own_yes {α : Type} [LT α] : ClassFile.Cond → α → α → Prop
  | .eq, x, y => x = y
  | .ne, x, y => ¬ x = y
  | .lt, x, y => x < y
  | .ge, x, y => ¬ x < y
  | .gt, x, y => y < x
  | .le, x, y => ¬ y < x
def own_no {α : Type} [LT α] : ClassFile.Cond → α → α → Prop
  | .eq, x, y => ¬ x = y
  | .ne, x, y => x = y
  | .lt, x, y => ¬ x < y
  | .ge, x, y => x < y
  | .gt, x, y => ¬ y < x
  | .le, x, y => y < x
theorem own_hy {cd : ClassFile.Cond} {x y : Int32} (h : own_yes cd x y) : if_icmp.holds cd x y = true := by
  cases cd
  · exact (teq h).1
  · exact (feq h).2
  · exact (tlt h).1
  · exact (flt h).2.1
  · exact (tlt h).2.2.1
  · exact (flt h).2.2.2
theorem own_hn {cd : ClassFile.Cond} {x y : Int32} (h : own_no cd x y) : if_icmp.holds cd x y = false := by
  cases cd
  · exact (feq h).1
  · exact (teq h).2
  · exact (flt h).1
  · exact (tlt h).2.1
  · exact (flt h).2.2.1
  · exact (tlt h).2.2.2
theorem own_yn {cd : ClassFile.Cond} {x y : Int32} : own_yes cd x y ∨ own_no cd x y := by
  cases cd
  · exact Classical.em _
  · exact (Classical.em _).symm
  · exact Classical.em _
  · exact (Classical.em _).symm
  · exact Classical.em _
  · exact (Classical.em _).symm
theorem own_ynL {cd : ClassFile.Cond} {x y : Int64} : own_yes cd x y ∨ own_no cd x y := by
  cases cd
  · exact Classical.em _
  · exact (Classical.em _).symm
  · exact Classical.em _
  · exact (Classical.em _).symm
  · exact Classical.em _
  · exact (Classical.em _).symm
theorem own_hyL {cd : ClassFile.Cond} {x y : Int64} (h : own_yes cd x y) : ifCond.holds cd (lcmpW x y) = true := by
  rw [if0]
  refine own_hy ?_
  cases cd
  · exact (lw_eq x y).mpr h
  · exact fun q => h ((lw_eq x y).mp q)
  · exact (lw_lt x y).mpr h
  · exact fun q => h ((lw_lt x y).mp q)
  · exact (lw_gt x y).mpr h
  · exact fun q => h ((lw_gt x y).mp q)
theorem own_hnL {cd : ClassFile.Cond} {x y : Int64} (h : own_no cd x y) : ifCond.holds cd (lcmpW x y) = false := by
  rw [if0]
  refine own_hn ?_
  cases cd
  · exact fun q => h ((lw_eq x y).mp q)
  · exact (lw_eq x y).mpr h
  · exact fun q => h ((lw_lt x y).mp q)
  · exact (lw_lt x y).mpr h
  · exact fun q => h ((lw_gt x y).mp q)
  · exact (lw_gt x y).mpr h
section Own
variable {p : Program} {l : Launch} {e : Env} {R : Room} {s : State} {m : MethodId} {args : Array Value} {below : List Frame} {meth : Method} {c : Code} {T : State} {locs : List Loc} {cells slots : Nat} {F : Outcome → State → Prop}
theorem own_abs {n0 : Nat} (X : Stand p l e R s m args below meth c T locs cells slots) (N : Fr n0 locs) : ∃ L, Stand p l e R s m args below meth c T L cells slots ∧ Fr n0 L := ⟨locs, X, N⟩
theorem own_absC {n0 K K' : Nat} {L Lc : List Loc} {k n : Nat} (X : Stand p l e R s m args below meth c T L k n) (hl : L = locs ++ Lc) (hk : k = K) (hn : n = K') (N : Fr n0 locs) (N' : Fr n0 Lc) : ∃ L, Stand p l e R s m args below meth c T L K K' ∧ Fr n0 L := by
  subst hk hn
  exact ⟨L, X, by rw [hl]; exact Fr.app N N'⟩
theorem own_icmpY (X : Stand p l e R s m args below meth c T locs cells slots) (hx : p.tables.exec = Jvm.exec) {cd : ClassFile.Cond} {x y : Int32} {o : Int} {pc pc' : Nat} {Ls : Array Slot} {rest : List Value} (hd : decode c.code pc = .ok (.if_icmp cd o, 3)) (ho : 0 ≤ (pc : Int) + o) (hp : ((pc : Int) + o).toNat = pc')
    (hc : own_yes cd x y) (h1 : own_G p.tables e below F (T.setTop (mkF m pc' Ls rest))) : own_G p.tables e below F (T.setTop (mkF m pc Ls (.int y :: .int x :: rest))) :=
  own_go (fun _ k => XS.icmpYes X.here hx rfl (pc0 := pc) (pc' := pc') rfl hd rfl (own_hy hc) ho hp k) h1
theorem own_icmpN (X : Stand p l e R s m args below meth c T locs cells slots) (hx : p.tables.exec = Jvm.exec) {cd : ClassFile.Cond} {x y : Int32} {o : Int} {pc pn : Nat} {Ls : Array Slot} {rest : List Value} (hd : decode c.code pc = .ok (.if_icmp cd o, 3)) (hq : pc + 3 = pn)
    (hc : own_no cd x y) (h1 : own_G p.tables e below F (T.setTop (mkF m pn Ls rest))) : own_G p.tables e below F (T.setTop (mkF m pc Ls (.int y :: .int x :: rest))) := by
  subst hq
  exact own_go (fun _ k => XS.icmpNo X.here hx rfl hd rfl (own_hn hc) k) h1
theorem own_icmp (X : Stand p l e R s m args below meth c T locs cells slots) (hx : p.tables.exec = Jvm.exec) {cd : ClassFile.Cond} {x y : Int32} {o : Int} {pc pc' pn : Nat} {Ls : Array Slot} {rest : List Value} (hd : decode c.code pc = .ok (.if_icmp cd o, 3)) (ho : 0 ≤ (pc : Int) + o) (hp : ((pc : Int) + o).toNat = pc') (hq : pc + 3 = pn)
    (h1 : own_yes cd x y → own_G p.tables e below F (T.setTop (mkF m pc' Ls rest))) (h2 : own_no cd x y → own_G p.tables e below F (T.setTop (mkF m pn Ls rest))) : own_G p.tables e below F (T.setTop (mkF m pc Ls (.int y :: .int x :: rest))) :=
  own_yn.elim (fun q => own_icmpY X hx hd ho hp q (h1 q)) (fun q => own_icmpN X hx hd hq q (h2 q))
theorem own_ifY (X : Stand p l e R s m args below meth c T locs cells slots) (hx : p.tables.exec = Jvm.exec) {cd : ClassFile.Cond} {x : Int32} {o : Int} {pc pc' : Nat} {Ls : Array Slot} {rest : List Value} (hd : decode c.code pc = .ok (.ifCond cd o, 3)) (ho : 0 ≤ (pc : Int) + o) (hp : ((pc : Int) + o).toNat = pc')
    (hc : own_yes cd x 0) (h1 : own_G p.tables e below F (T.setTop (mkF m pc' Ls rest))) : own_G p.tables e below F (T.setTop (mkF m pc Ls (.int x :: rest))) :=
  own_go (fun _ k => XS.ifYes X.here hx rfl (pc0 := pc) (pc' := pc') rfl hd rfl ((if0 cd x).trans (own_hy hc)) ho hp k) h1
theorem own_ifN (X : Stand p l e R s m args below meth c T locs cells slots) (hx : p.tables.exec = Jvm.exec) {cd : ClassFile.Cond} {x : Int32} {o : Int} {pc pn : Nat} {Ls : Array Slot} {rest : List Value} (hd : decode c.code pc = .ok (.ifCond cd o, 3)) (hq : pc + 3 = pn)
    (hc : own_no cd x 0) (h1 : own_G p.tables e below F (T.setTop (mkF m pn Ls rest))) : own_G p.tables e below F (T.setTop (mkF m pc Ls (.int x :: rest))) := by
  subst hq
  exact own_go (fun _ k => XS.ifNo X.here hx rfl hd rfl ((if0 cd x).trans (own_hn hc)) k) h1
theorem own_if (X : Stand p l e R s m args below meth c T locs cells slots) (hx : p.tables.exec = Jvm.exec) {cd : ClassFile.Cond} {x : Int32} {o : Int} {pc pc' pn : Nat} {Ls : Array Slot} {rest : List Value} (hd : decode c.code pc = .ok (.ifCond cd o, 3)) (ho : 0 ≤ (pc : Int) + o) (hp : ((pc : Int) + o).toNat = pc') (hq : pc + 3 = pn)
    (h1 : own_yes cd x 0 → own_G p.tables e below F (T.setTop (mkF m pc' Ls rest))) (h2 : own_no cd x 0 → own_G p.tables e below F (T.setTop (mkF m pn Ls rest))) : own_G p.tables e below F (T.setTop (mkF m pc Ls (.int x :: rest))) :=
  own_yn.elim (fun q => own_ifY X hx hd ho hp q (h1 q)) (fun q => own_ifN X hx hd hq q (h2 q))
theorem own_lifY (X : Stand p l e R s m args below meth c T locs cells slots) (hx : p.tables.exec = Jvm.exec) {cd : ClassFile.Cond} {x y : Int64} {o : Int} {pc pc' : Nat} {Ls : Array Slot} {rest : List Value} (hd : decode c.code pc = .ok (.ifCond cd o, 3)) (ho : 0 ≤ (pc : Int) + o) (hp : ((pc : Int) + o).toNat = pc')
    (hc : own_yes cd x y) (h1 : own_G p.tables e below F (T.setTop (mkF m pc' Ls rest))) : own_G p.tables e below F (T.setTop (mkF m pc Ls (.int (lcmpW x y) :: rest))) :=
  own_go (fun _ k => XS.ifYes X.here hx rfl (pc0 := pc) (pc' := pc') rfl hd rfl (own_hyL hc) ho hp k) h1
theorem own_lifN (X : Stand p l e R s m args below meth c T locs cells slots) (hx : p.tables.exec = Jvm.exec) {cd : ClassFile.Cond} {x y : Int64} {o : Int} {pc pn : Nat} {Ls : Array Slot} {rest : List Value} (hd : decode c.code pc = .ok (.ifCond cd o, 3)) (hq : pc + 3 = pn)
    (hc : own_no cd x y) (h1 : own_G p.tables e below F (T.setTop (mkF m pn Ls rest))) : own_G p.tables e below F (T.setTop (mkF m pc Ls (.int (lcmpW x y) :: rest))) := by
  subst hq
  exact own_go (fun _ k => XS.ifNo X.here hx rfl hd rfl (own_hnL hc) k) h1
theorem own_lif (X : Stand p l e R s m args below meth c T locs cells slots) (hx : p.tables.exec = Jvm.exec) {cd : ClassFile.Cond} {x y : Int64} {o : Int} {pc pc' pn : Nat} {Ls : Array Slot} {rest : List Value} (hd : decode c.code pc = .ok (.ifCond cd o, 3)) (ho : 0 ≤ (pc : Int) + o) (hp : ((pc : Int) + o).toNat = pc') (hq : pc + 3 = pn)
    (h1 : own_yes cd x y → own_G p.tables e below F (T.setTop (mkF m pc' Ls rest))) (h2 : own_no cd x y → own_G p.tables e below F (T.setTop (mkF m pn Ls rest))) : own_G p.tables e below F (T.setTop (mkF m pc Ls (.int (lcmpW x y) :: rest))) :=
  own_ynL.elim (fun q => own_lifY X hx hd ho hp q (h1 q)) (fun q => own_lifN X hx hd hq q (h2 q))
theorem own_ret (X : Stand p l e R s m args below meth c T locs cells slots) (hx : p.tables.exec = Jvm.exec) (hlk : meth.locks = false) {K N pc : Nat} {Ls : Array Slot} {w : Value} {t : FieldType} {i : Instr} {rest : List Value} {Q : Option Value → Heap → List Loc → Prop} (hret : meth.sig.returnType = some t) (hn : narrow t w = w)
    (hi : (i = .ireturn ∧ (t = .int ∨ t = .boolean ∨ t = .byte ∨ t = .char ∨ t = .short) ∧ ∃ z, w = .int z) ∨ (i = .lreturn ∧ t = .long ∧ ∃ z, w = .long z) ∨ (i = .dreturn ∧ t = .double ∧ ∃ z, w = .double z) ∨ (i = .freturn ∧ t = .float ∧ ∃ z, w = .float z) ∨ (i = .areturn ∧ t.isReference = true ∧ w.isRef = true))
    (hd : decode c.code pc = .ok (i, 1)) (hK : cells ≤ K) (hN : slots ≤ N) (hQ : Q (some w) T.heap locs) :
    own_G p.tables e below (fun o U' => ∃ v L, o = .returned v ∧ Q v U'.heap L ∧ FrameEnd s o U' L K N) (T.setTop (mkF m pc Ls (w :: rest))) := by
  obtain ⟨fs, hr, hrun, hended, hW, hsame⟩ := X.leave (v := some w) (fun h => by rw [hret] at h; cases h) hlk
  exact ⟨_, _, retOut X hx hret hn hi hd hr, hrun, hended, _, _, rfl, hQ, ⟨_, rfl⟩, hW, hsame.mono hK hN⟩
theorem own_retI (X : Stand p l e R s m args below meth c T locs cells slots) (hx : p.tables.exec = Jvm.exec) (hlk : meth.locks = false) {K N pc : Nat} {Ls : Array Slot} {z : Int32} {rest : List Value} {Q : Option Value → Heap → List Loc → Prop} (hret : meth.sig.returnType = some .int)
    (hd : decode c.code pc = .ok (.ireturn, 1)) (hK : cells ≤ K) (hN : slots ≤ N) (hQ : Q (some (.int z)) T.heap locs) :
    own_G p.tables e below (fun o U' => ∃ v L, o = .returned v ∧ Q v U'.heap L ∧ FrameEnd s o U' L K N) (T.setTop (mkF m pc Ls (.int z :: rest))) :=
  own_ret X hx hlk hret rfl (Or.inl ⟨rfl, Or.inl rfl, z, rfl⟩) hd hK hN hQ
theorem own_retZ (X : Stand p l e R s m args below meth c T locs cells slots) (hx : p.tables.exec = Jvm.exec) (hlk : meth.locks = false) {K N pc : Nat} {Ls : Array Slot} {z : Int32} {rest : List Value} {Q : Option Value → Heap → List Loc → Prop} (hret : meth.sig.returnType = some .boolean)
    (hd : decode c.code pc = .ok (.ireturn, 1)) (hz : z = 0 ∨ z = 1) (hK : cells ≤ K) (hN : slots ≤ N) (hQ : Q (some (.int z)) T.heap locs) :
    own_G p.tables e below (fun o U' => ∃ v L, o = .returned v ∧ Q v U'.heap L ∧ FrameEnd s o U' L K N) (T.setTop (mkF m pc Ls (.int z :: rest))) :=
  own_ret X hx hlk hret (by rcases hz with rfl | rfl <;> rfl) (Or.inl ⟨rfl, Or.inr (Or.inl rfl), z, rfl⟩) hd hK hN hQ
theorem own_retL (X : Stand p l e R s m args below meth c T locs cells slots) (hx : p.tables.exec = Jvm.exec) (hlk : meth.locks = false) {K N pc : Nat} {Ls : Array Slot} {z : Int64} {rest : List Value} {Q : Option Value → Heap → List Loc → Prop} (hret : meth.sig.returnType = some .long)
    (hd : decode c.code pc = .ok (.lreturn, 1)) (hK : cells ≤ K) (hN : slots ≤ N) (hQ : Q (some (.long z)) T.heap locs) :
    own_G p.tables e below (fun o U' => ∃ v L, o = .returned v ∧ Q v U'.heap L ∧ FrameEnd s o U' L K N) (T.setTop (mkF m pc Ls (.long z :: rest))) :=
  own_ret X hx hlk hret rfl (Or.inr (Or.inl ⟨rfl, rfl, z, rfl⟩)) hd hK hN hQ
theorem own_retA (X : Stand p l e R s m args below meth c T locs cells slots) (hx : p.tables.exec = Jvm.exec) (hlk : meth.locks = false) {K N pc : Nat} {Ls : Array Slot} {w : Value} {t : FieldType} {rest : List Value} {Q : Option Value → Heap → List Loc → Prop} (hret : meth.sig.returnType = some t) (ht : t.isReference = true) (hw : w.isRef = true)
    (hd : decode c.code pc = .ok (.areturn, 1)) (hK : cells ≤ K) (hN : slots ≤ N) (hQ : Q (some w) T.heap locs) :
    own_G p.tables e below (fun o U' => ∃ v L, o = .returned v ∧ Q v U'.heap L ∧ FrameEnd s o U' L K N) (T.setTop (mkF m pc Ls (w :: rest))) :=
  own_ret X hx hlk hret (by cases t <;> first | (cases ht; done) | (rcases ref_cases hw with rfl | ⟨z, rfl⟩ <;> rfl)) (Or.inr (Or.inr (Or.inr (Or.inr ⟨rfl, ht, hw⟩)))) hd hK hN hQ
theorem own_retV (X : Stand p l e R s m args below meth c T locs cells slots) (hx : p.tables.exec = Jvm.exec) (hlk : meth.locks = false) {K N pc : Nat} {Ls : Array Slot} {Q : Option Value → Heap → List Loc → Prop} (hret : meth.sig.returnType = none)
    (hd : decode c.code pc = .ok (.return_, 1)) (hK : cells ≤ K) (hN : slots ≤ N) (hQ : Q none T.heap locs) :
    own_G p.tables e below (fun o U' => ∃ v L, o = .returned v ∧ Q v U'.heap L ∧ FrameEnd s o U' L K N) (T.setTop (mkF m pc Ls [])) := by
  obtain ⟨fs, hr, hrun, hended, hW, hsame⟩ := X.leave (v := none) (fun _ => rfl) hlk
  exact ⟨_, _, X.returnOut hx hret hd hr, hrun, hended, _, _, rfl, hQ, ⟨_, rfl⟩, hW, hsame.mono hK hN⟩
theorem own_acmpVE (X : Stand p l e R s m args below meth c T locs cells slots) (hx : p.tables.exec = Jvm.exec) {cd : ACond} {x y : Value} (h1 : x.isRef = true) (h2 : y.isRef = true) {o : Int} {pc pc' : Nat} {Ls : Array Slot} {rest : List Value} (hd : decode c.code pc = .ok (.if_acmp cd o, 3)) (ho : 0 ≤ (pc : Int) + o) (hp : pc' = if acV cd true = true then ((pc : Int) + o).toNat else pc + 3)
    (hc : x = y) (k : own_G p.tables e below F (T.setTop (mkF m pc' Ls rest))) : own_G p.tables e below F (T.setTop (mkF m pc Ls (y :: x :: rest))) :=
  own_go (fun _ q => RoadKit.acmp X hx rfl h1 h2 (pc0 := pc) (pc' := pc') (same := true) rfl hd rfl (by simp [hc]) ho hp q) k
theorem own_acmpVD (X : Stand p l e R s m args below meth c T locs cells slots) (hx : p.tables.exec = Jvm.exec) {cd : ACond} {x y : Value} (h1 : x.isRef = true) (h2 : y.isRef = true) {o : Int} {pc pc' : Nat} {Ls : Array Slot} {rest : List Value} (hd : decode c.code pc = .ok (.if_acmp cd o, 3)) (ho : 0 ≤ (pc : Int) + o) (hp : pc' = if acV cd false = true then ((pc : Int) + o).toNat else pc + 3)
    (hc : ¬ x = y) (k : own_G p.tables e below F (T.setTop (mkF m pc' Ls rest))) : own_G p.tables e below F (T.setTop (mkF m pc Ls (y :: x :: rest))) :=
  own_go (fun _ q => RoadKit.acmp X hx rfl h1 h2 (pc0 := pc) (pc' := pc') (same := false) rfl hd rfl (by simp [hc]) ho hp q) k
theorem own_acmpAE (X : Stand p l e R s m args below meth c T locs cells slots) (hx : p.tables.exec = Jvm.exec) {cd : ACond} {x y : Addr} {o : Int} {pc pc' : Nat} {Ls : Array Slot} {rest : List Value} (hd : decode c.code pc = .ok (.if_acmp cd o, 3)) (ho : 0 ≤ (pc : Int) + o) (hp : pc' = if acV cd true = true then ((pc : Int) + o).toNat else pc + 3)
    (hc : x = y) (k : own_G p.tables e below F (T.setTop (mkF m pc' Ls rest))) : own_G p.tables e below F (T.setTop (mkF m pc Ls (.ref y :: .ref x :: rest))) :=
  own_acmpVE X hx rfl rfl hd ho hp (by rw [hc]) k
theorem own_acmpAD (X : Stand p l e R s m args below meth c T locs cells slots) (hx : p.tables.exec = Jvm.exec) {cd : ACond} {x y : Addr} {o : Int} {pc pc' : Nat} {Ls : Array Slot} {rest : List Value} (hd : decode c.code pc = .ok (.if_acmp cd o, 3)) (ho : 0 ≤ (pc : Int) + o) (hp : pc' = if acV cd false = true then ((pc : Int) + o).toNat else pc + 3)
    (hc : ¬ x = y) (k : own_G p.tables e below F (T.setTop (mkF m pc' Ls rest))) : own_G p.tables e below F (T.setTop (mkF m pc Ls (.ref y :: .ref x :: rest))) :=
  own_acmpVD X hx rfl rfl hd ho hp (fun q => hc (by cases q; rfl)) k
end Own
theorem own_cat1 {v : Value} (h : v.isRef = true) : v.category = 1 := by cases v <;> first | (cases h; done) | rfl
theorem own_sta_keep {Z : State} {h h' : Heap} {C n d : String} {v : Value} {ws : List Addr} (F : Sta Z h C n d v) (K : Keep h h' ws) (q : ∀ x ∈ ws, ∀ c : Cell, h[x]? = some c → c.vm.isStatics = false) : Sta Z h' C n d v := by
  obtain ⟨cf, i, k, f, st, cell, h1, h2, h3, h4, h5, h6, h7⟩ := F
  exact ⟨cf, i, k, f, st, cell, h1, h2, h3, h4, K.2.1 _ _ h5 (fun z => by rw [q _ z _ h5] at h6; cases h6), h6, h7⟩
theorem own_eqint {t : Term} {n : Int32} {args : Array Value} {s : State} (h : (Jvm.Cond.eq t (Term.int n)).value args s none s [] = some true) : t.eval args s none [] s = some (.int n) := by
  have hb : (Term.int n).eval args s none [] s = some (.int n) := Term.int_eval n
  simp only [Jvm.Cond.value, hb] at h
  cases ht : t.eval args s none [] s with
  | none => simp [ht] at h
  | some v => cases v <;> simp [ht] at h ⊢; exact h
theorem own_iconst {tb : Tables} [Ours tb] {e : Env} {below : List Frame} {T target : State} {m : MethodId} {c : Code} {g : JFrame} {v : Int32} (h : At T m c below) (hx : tb.exec = Jvm.exec) (hg : g.method = m) {i : Int} (hd : decode c.code g.pc = .ok (.iconst i, 1)) (hv : Int32.ofInt i = v)
    (hr : Steps tb e below (T.setTop { g with pc := g.pc + 1, stack := .int v :: g.stack }) target) : Steps tb e below (T.setTop g) target := by
  subst hv
  exact XS.iconst h hx hg hd hr
theorem own_bipush {tb : Tables} [Ours tb] {e : Env} {below : List Frame} {T target : State} {m : MethodId} {c : Code} {g : JFrame} {v : Int32} (h : At T m c below) (hx : tb.exec = Jvm.exec) (hg : g.method = m) {i : Int} (hd : decode c.code g.pc = .ok (.bipush i, 2)) (hv : (Int8.ofInt i).toInt32 = v)
    (hr : Steps tb e below (T.setTop { g with pc := g.pc + 2, stack := .int v :: g.stack }) target) : Steps tb e below (T.setTop g) target := by
  subst hv
  exact XS.bipush h hx hg hd hr
theorem own_sipush {tb : Tables} [Ours tb] {e : Env} {below : List Frame} {T target : State} {m : MethodId} {c : Code} {g : JFrame} {v : Int32} (h : At T m c below) (hx : tb.exec = Jvm.exec) (hg : g.method = m) {i : Int} (hd : decode c.code g.pc = .ok (.sipush i, 3)) (hv : (Int16.ofInt i).toInt32 = v)
    (hr : Steps tb e below (T.setTop { g with pc := g.pc + 3, stack := .int v :: g.stack }) target) : Steps tb e below (T.setTop g) target := by
  subst hv
  exact XS.sipush h hx hg hd hr
/-! own layer: arrays by their whole list of values -/
def own_Ar (Z : State) (h : Heap) (a : Addr) (ty : FieldType) (L : List Value) : Prop := ∃ c : Cell, Arr Z h a c ty ∧ c.slots.toList = L
theorem own_lenL {L : List Value} {n : Nat} {z : Int32} (h : L.length = n) (h2 : n.toInt32 = z) : L.length.toInt32 = z := by rw [h]; exact h2
section OwnArr
variable {Z : State} {h h' : Heap} {a b : Addr} {ty : FieldType} {L : List Value}
theorem own_Ar_new {cA : ClassId} {n : Int32} {N : Nat} (A : Arr Z h a (newA cA ty n) ty) (hN : n.toNatClampNeg = N) (hL : List.replicate N (defaultValue ty) = L) : own_Ar Z h a ty L := ⟨_, A, by rw [← hL, ← hN]; simp [newA]⟩
theorem own_Ar_ext (F : own_Ar Z h a ty L) (E : Ext h h') : own_Ar Z h' a ty L := by obtain ⟨c, A, r⟩ := F; exact ⟨c, A.ext E, r⟩
theorem own_Ar_other {sl : Nat} {v : Value} (F : own_Ar Z h b ty L) (W : Wr h h' a sl v) (q : b ≠ a) : own_Ar Z h' b ty L := by obtain ⟨c, A, r⟩ := F; exact ⟨c, A.other W q, r⟩
theorem own_Ar_keep {ws : List Addr} (F : own_Ar Z h a ty L) (K : Keep h h' ws) (q : a ∉ ws) : own_Ar Z h' a ty L := by obtain ⟨c, A, r⟩ := F; exact ⟨c, ⟨K.2.1 a c A.1 q, A.2⟩, r⟩
theorem own_Ar_lt (F : own_Ar Z h a ty L) : a < h.size := by obtain ⟨c, A, -⟩ := F; exact A.lt
theorem own_Ar_ns (F : own_Ar Z h a ty L) : ∀ cell : Cell, h[a]? = some cell → cell.vm.isStatics = false := by obtain ⟨c, A, -⟩ := F; exact Arr.nostat A
theorem own_Ar_same {i : Nat} {v : Value} {L' : List Value} (F : own_Ar Z h a ty L) (W : Wr h h' a i v) (hL : L.set i v = L') : own_Ar Z h' a ty L' := by
  obtain ⟨c, A, r⟩ := F
  refine ⟨_, A.same W, ?_⟩
  rw [← hL, ← r]
  simp [Cell.setSlot]
theorem own_Ar_ne {C : String} {k : Nat} {a0 : Array Value} (E : Exa Z h b C) (wi : (Jvm.Cond.instantiable C k).before a0 Z = true) (F : own_Ar Z h a ty L) : b ≠ a := by obtain ⟨c, A, -⟩ := F; exact ne_arr E wi A
theorem own_in_of {c : Cell} {j : Int32} (r : c.slots.toList = L) (hj : ¬ j < 0) (hl : j.toNatClampNeg < L.length) : ¬ (j < 0 ∨ c.slots.size ≤ j.toNatClampNeg) := by
  have e : c.slots.size = L.length := by rw [← r]; simp
  rw [e]
  exact fun q => q.elim hj (fun z => absurd hl (Nat.not_lt.mpr z))
theorem own_at_of {c : Cell} {i : Nat} {v : Value} (r : c.slots.toList = L) (hv : L[i]? = some v) : c.slots[i]? = some v := by
  rw [← hv, ← r]; simp
theorem own_lt_of {i : Nat} {v : Value} (hv : L[i]? = some v) : i < L.length := (List.getElem?_eq_some_iff.mp hv).1
variable {p : Program} {l : Launch} {e : Env} {R : Room} {s : State} {m : MethodId} {args : Array Value} {below : List Frame} {meth : Method} {c : Code} {T : State} {locs : List Loc} {cells slots : Nat}
theorem own_stI (X : Stand p l e R s m args below meth c T locs cells slots) (hx : p.tables.exec = Jvm.exec) (hZ : Z.Warmed39 s.vm) (eT : T.heap = h) (F : own_Ar Z h a .int L) {j x : Int32} {i : Nat} (hi : j.toNatClampNeg = i) (hj : ¬ j < 0) (hl : i < L.length) {L' : List Value} (hL : L.set i (.int x) = L')
    {g : JFrame} (hg : g.method = m) {rest : List Value} (hs : g.stack = .int x :: .int j :: .ref a :: rest) (hd : decode c.code g.pc = .ok (.iastore, 1)) :
    ∃ T' h', Stand p l e R s m args below meth c T' (locs ++ [⟨a, i⟩]) cells slots ∧ T'.heap = h' ∧ Wr h h' a i (.int x) ∧ own_Ar Z h' a .int L' ∧ ∀ target, Steps p.tables e below (T'.setTop { g with pc := g.pc + 1, stack := rest }) target → Steps p.tables e below (T.setTop g) target := by
  subst hi
  obtain ⟨cl, A, r⟩ := F
  obtain ⟨T', h', X', e', W, st⟩ := stI X hx hZ eT A (own_in_of r hj hl) hg hs hd
  exact ⟨T', h', X', e', W, own_Ar_same ⟨cl, A, r⟩ W hL, st⟩
theorem own_ldI (X : Stand p l e R s m args below meth c T locs cells slots) (hx : p.tables.exec = Jvm.exec) (hZ : Z.Warmed39 s.vm) (eT : T.heap = h) (F : own_Ar Z h a .int L) {j : Int32} {v : Value} (hj : ¬ j < 0) (hv : L[j.toNatClampNeg]? = some v)
    {g : JFrame} (hg : g.method = m) {rest : List Value} (hs : g.stack = .int j :: .ref a :: rest) (hd : decode c.code g.pc = .ok (.iaload, 1)) :
    ∀ target, Steps p.tables e below (T.setTop { g with pc := g.pc + 1, stack := v :: rest }) target → Steps p.tables e below (T.setTop g) target := by
  obtain ⟨cl, A, r⟩ := F
  exact X.iaload hx (by rw [eT]; exact A.1) (State.isArrayOf_alike hZ.alike A.2.1) A.2.2 (own_in_of r hj (own_lt_of hv)) (own_at_of r hv) hg hs hd
theorem own_ldB (X : Stand p l e R s m args below meth c T locs cells slots) (hx : p.tables.exec = Jvm.exec) (hZ : Z.Warmed39 s.vm) (eT : T.heap = h) (F : own_Ar Z h a .byte L) {j : Int32} {v : Value} (hj : ¬ j < 0) (hv : L[j.toNatClampNeg]? = some v)
    {g : JFrame} (hg : g.method = m) {rest : List Value} (hs : g.stack = .int j :: .ref a :: rest) (hd : decode c.code g.pc = .ok (.baload, 1)) :
    ∀ target, Steps p.tables e below (T.setTop { g with pc := g.pc + 1, stack := v :: rest }) target → Steps p.tables e below (T.setTop g) target := by
  obtain ⟨cl, A, r⟩ := F
  exact X.baloadBytes hx (by rw [eT]; exact A.1) (State.isArrayOf_alike hZ.alike A.2.1) A.2.2 (own_in_of r hj (own_lt_of hv)) (own_at_of r hv) hg hs hd
theorem own_ldR (X : Stand p l e R s m args below meth c T locs cells slots) (hx : p.tables.exec = Jvm.exec) (hZ : Z.Warmed39 s.vm) (eT : T.heap = h) (F : own_Ar Z h a ty L) (hty : ty.isReference = true) {j : Int32} {v : Value} (hj : ¬ j < 0) (hv : L[j.toNatClampNeg]? = some v)
    {g : JFrame} (hg : g.method = m) {rest : List Value} (hs : g.stack = .int j :: .ref a :: rest) (hd : decode c.code g.pc = .ok (.aaload, 1)) :
    ∀ target, Steps p.tables e below (T.setTop { g with pc := g.pc + 1, stack := v :: rest }) target → Steps p.tables e below (T.setTop g) target := by
  obtain ⟨cl, A, r⟩ := F
  exact X.aaload hx (by rw [eT]; exact A.1) (State.isArrayOf_alike hZ.alike A.2.1) hty A.2.2 (own_in_of r hj (own_lt_of hv)) (own_at_of r hv) hg hs hd
theorem own_alen (X : Stand p l e R s m args below meth c T locs cells slots) (hx : p.tables.exec = Jvm.exec) (hZ : Z.Warmed39 s.vm) (eT : T.heap = h) (F : own_Ar Z h a ty L) {n : Int32} (hn : L.length.toInt32 = n)
    {g : JFrame} (hg : g.method = m) {rest : List Value} (hs : g.stack = .ref a :: rest) (hd : decode c.code g.pc = .ok (.arraylength, 1)) :
    ∀ target, Steps p.tables e below (T.setTop { g with pc := g.pc + 1, stack := .int n :: rest }) target → Steps p.tables e below (T.setTop g) target := by
  obtain ⟨cl, A, r⟩ := F
  have q : cl.slots.size.toInt32 = n := by rw [← hn, ← r]; simp
  rw [← q]
  exact fun t k => X.arraylength hx (by rw [eT]; exact A.1) (State.isArrayOf_alike hZ.alike A.2.1) hg hs hd t k
end OwnArr
/-! own layer: arrays of references -/
def own_Ao (Z : State) (h : Heap) (a : Addr) (C : String) (L : List Value) : Prop := ∃ c : Cell, Arr Z h a c (.object C) ∧ Ovr Z c.cls C ∧ c.slots.toList = L
section OwnArrO
variable {Z : State} {h h' : Heap} {a b : Addr} {C : String} {L : List Value}
theorem own_Ao_new {cA : ClassId} {n : Int32} (A : Arr Z h a (newA cA (.object C) n) (.object C)) (O : Ovr Z cA C) : own_Ao Z h a C (List.replicate n.toNatClampNeg .null) := ⟨_, A, O, by simp [newA, defaultValue]⟩
theorem own_Ao_ar (F : own_Ao Z h a C L) : own_Ar Z h a (.object C) L := by obtain ⟨c, A, -, r⟩ := F; exact ⟨c, A, r⟩
theorem own_Ao_ext (F : own_Ao Z h a C L) (E : Ext h h') : own_Ao Z h' a C L := by obtain ⟨c, A, r⟩ := F; exact ⟨c, A.ext E, r⟩
theorem own_Ao_other {sl : Nat} {v : Value} (F : own_Ao Z h b C L) (W : Wr h h' a sl v) (q : b ≠ a) : own_Ao Z h' b C L := by obtain ⟨c, A, r⟩ := F; exact ⟨c, A.other W q, r⟩
theorem own_Ao_keep {ws : List Addr} (F : own_Ao Z h a C L) (K : Keep h h' ws) (q : a ∉ ws) : own_Ao Z h' a C L := by obtain ⟨c, A, r⟩ := F; exact ⟨c, ⟨K.2.1 a c A.1 q, A.2⟩, r⟩
theorem own_Ao_lt (F : own_Ao Z h a C L) : a < h.size := by obtain ⟨c, A, -⟩ := F; exact A.lt
theorem own_Ao_same {i : Nat} {v : Value} (F : own_Ao Z h a C L) (W : Wr h h' a i v) : own_Ao Z h' a C (L.set i v) := by
  obtain ⟨c, A, O, r⟩ := F
  refine ⟨_, A.same W, O, ?_⟩
  rw [← r]
  simp [Cell.setSlot]
variable {p : Program} {l : Launch} {e : Env} {R : Room} {s : State} {m : MethodId} {args : Array Value} {below : List Frame} {meth : Method} {c : Code} {T : State} {locs : List Loc} {cells slots : Nat}
theorem own_stR (X : Stand p l e R s m args below meth c T locs cells slots) (hx : p.tables.exec = Jvm.exec) (hZ : Z.Warmed39 s.vm) (eT : T.heap = h) (F : own_Ao Z h a C L) {j : Int32} {v : Value} (hv : v = .null ∨ ∃ y, v = .ref y ∧ Ins Z h y C true) (hj : ¬ j < 0) (hl : j.toNatClampNeg < L.length)
    {g : JFrame} (hg : g.method = m) {rest : List Value} (hs : g.stack = v :: .int j :: .ref a :: rest) (hd : decode c.code g.pc = .ok (.aastore, 1)) :
    ∃ T' h', Stand p l e R s m args below meth c T' (locs ++ [⟨a, j.toNatClampNeg⟩]) cells slots ∧ T'.heap = h' ∧ Wr h h' a j.toNatClampNeg v ∧ own_Ao Z h' a C (L.set j.toNatClampNeg v) ∧ ∀ target, Steps p.tables e below (T'.setTop { g with pc := g.pc + 1, stack := rest }) target → Steps p.tables e below (T.setTop g) target := by
  obtain ⟨cl, A, O, r⟩ := F
  have S : Sto Z h a v := by
    rcases hv with rfl | ⟨y, rfl, I⟩
    · exact Or.inl rfl
    · exact Sto.of A O I
  obtain ⟨T', h', X', e', W, st⟩ := stR X hx hZ eT A (own_in_of r hj hl) rfl S hg hs hd
  exact ⟨T', h', X', e', W, own_Ao_same ⟨cl, A, O, r⟩ W, st⟩
end OwnArrO
/-! own layer: a bundle of boxed ints -/
def own_Bn (Z : State) (h : Heap) (l : List (Addr × Int32)) : Prop := ∀ x ∈ l, Exa Z h x.1 "java/lang/Integer" ∧ Fld Z h x.1 "java/lang/Integer" "value" "I" (.int x.2)
theorem own_Bn_keep {Z : State} {h h' : Heap} {l : List (Addr × Int32)} {ws : List Addr} (B : own_Bn Z h l) (K : Keep h h' ws) (q : ∀ x ∈ l, x.1 ∉ ws) : own_Bn Z h' l := fun x hx => ⟨(B x hx).1.keep K, (B x hx).2.keep K (q x hx)⟩
theorem own_Bn_exa {Z : State} {h : Heap} {l : List (Addr × Int32)} {a : Addr} {v : Int32} (B : own_Bn Z h l) (q : (a, v) ∈ l) : Exa Z h a "java/lang/Integer" := (B _ q).1
theorem own_Bn_fld {Z : State} {h : Heap} {l : List (Addr × Int32)} {a : Addr} {v : Int32} (B : own_Bn Z h l) (q : (a, v) ∈ l) : Fld Z h a "java/lang/Integer" "value" "I" (.int v) := (B _ q).2
theorem own_Bn_nil (Z : State) (h : Heap) : own_Bn Z h [] := fun _ q => nomatch q
theorem own_Bn_cons {Z : State} {h : Heap} {l : List (Addr × Int32)} {a : Addr} {v : Int32} (E : Exa Z h a "java/lang/Integer") (F : Fld Z h a "java/lang/Integer" "value" "I" (.int v)) (B : own_Bn Z h l) : own_Bn Z h ((a, v) :: l) := fun x hx => by
  rcases List.mem_cons.mp hx with rfl | q
  · exact ⟨E, F⟩
  · exact B x q
theorem own_stB {Z : State} {h : Heap} {a : Addr} {L : List Value} {p : Program} {l : Launch} {e : Env} {R : Room} {s : State} {m : MethodId} {args : Array Value} {below : List Frame} {meth : Method} {c : Code} {T : State} {locs : List Loc} {cells slots : Nat}
    (X : Stand p l e R s m args below meth c T locs cells slots) (hx : p.tables.exec = Jvm.exec) (hZ : Z.Warmed39 s.vm) (eT : T.heap = h) (F : own_Ar Z h a .byte L) {j x : Int32} {i : Nat} (hi : j.toNatClampNeg = i) (hj : ¬ j < 0) (hl : i < L.length) (hn : nar .byte x = x) {L' : List Value} (hL : L.set i (.int x) = L')
    {g : JFrame} (hg : g.method = m) {rest : List Value} (hs : g.stack = .int x :: .int j :: .ref a :: rest) (hd : decode c.code g.pc = .ok (.bastore, 1)) :
    ∃ T' h', Stand p l e R s m args below meth c T' (locs ++ [⟨a, i⟩]) cells slots ∧ T'.heap = h' ∧ Wr h h' a i (.int x) ∧ own_Ar Z h' a .byte L' ∧ ∀ target, Steps p.tables e below (T'.setTop { g with pc := g.pc + 1, stack := rest }) target → Steps p.tables e below (T.setTop g) target := by
  subst hi
  obtain ⟨cl, A, r⟩ := F
  obtain ⟨T', h', X', e', W, st⟩ := stB X hx hZ eT A (own_in_of r hj hl) hg hs hd
  rw [hn] at W
  exact ⟨T', h', X', e', W, own_Ar_same ⟨cl, A, r⟩ W hL, st⟩
theorem own_arv_of {Z : State} {h : Heap} {a : Addr} {ty : FieldType} {L : List Value} {z : Int32} {dv : Value} (F : own_Ar Z h a ty L) (hz : z.toNatClampNeg = L.length) (h0 : ¬ z < 0) (hf : ∀ v ∈ L, fits ty v = true) : ∃ k, Arv Z h a k ty z L dv := by
  obtain ⟨c, A, r⟩ := F
  have hs : c.slots.size = L.length := by rw [← r]; simp
  refine ⟨c.cls, c, A, rfl, by rw [hz, hs], h0, fun i hi => ?_, fun i hi => ?_⟩
  · have hi' : i < L.length := by rw [← hs]; exact hi
    refine own_at_of r ?_
    rw [List.getElem?_eq_getElem hi', List.getD_eq_getElem?_getD, List.getElem?_eq_getElem hi']; rfl
  · have hi' : i < L.length := by rw [← hs]; exact hi
    rw [List.getD_eq_getElem?_getD, List.getElem?_eq_getElem hi']
    exact hf _ (List.getElem_mem hi')
theorem own_ar_of {Z : State} {h : Heap} {a : Addr} {k : ClassId} {ty : FieldType} {L : List Value} {z : Int32} {dv : Value} (F : Arv Z h a k ty z L dv) (hz : z.toNatClampNeg = L.length) : own_Ar Z h a ty L := by
  obtain ⟨c, A, -, hs, -, H, -⟩ := F
  refine ⟨c, A, ?_⟩
  apply List.ext_getElem?
  intro i
  by_cases hi : i < c.slots.size
  · have q := H i hi
    have hi' : i < L.length := by rw [← hz, ← hs]; exact hi
    rw [List.getD_eq_getElem?_getD, List.getElem?_eq_getElem hi'] at q
    rw [List.getElem?_eq_getElem hi', Array.getElem?_toList]
    exact q
  · have h1 : c.slots.toList[i]? = none := by rw [List.getElem?_eq_none_iff]; simpa using hi
    have h2 : L[i]? = none := by rw [List.getElem?_eq_none_iff, ← hz, ← hs]; omega
    rw [h1, h2]
theorem own_ldD {Z : State} {h : Heap} {a : Addr} {L : List Value} {p : Program} {l : Launch} {e : Env} {R : Room} {s : State} {m : MethodId} {args : Array Value} {below : List Frame} {meth : Method} {c : Code} {T : State} {locs : List Loc} {cells slots : Nat}
    (X : Stand p l e R s m args below meth c T locs cells slots) (hx : p.tables.exec = Jvm.exec) (hZ : Z.Warmed39 s.vm) (eT : T.heap = h) (F : own_Ar Z h a .double L) {j : Int32} {v : Value} (hj : ¬ j < 0) (hv : L[j.toNatClampNeg]? = some v)
    {g : JFrame} (hg : g.method = m) {rest : List Value} (hs : g.stack = .int j :: .ref a :: rest) (hd : decode c.code g.pc = .ok (.daload, 1)) :
    ∀ target, Steps p.tables e below (T.setTop { g with pc := g.pc + 1, stack := v :: rest }) target → Steps p.tables e below (T.setTop g) target := by
  obtain ⟨cl, A, r⟩ := F
  exact X.daload hx (by rw [eT]; exact A.1) (State.isArrayOf_alike hZ.alike A.2.1) A.2.2 (own_in_of r hj (own_lt_of hv)) (own_at_of r hv) hg hs hd
theorem own_stD {Z : State} {h : Heap} {a : Addr} {L : List Value} {p : Program} {l : Launch} {e : Env} {R : Room} {s : State} {m : MethodId} {args : Array Value} {below : List Frame} {meth : Method} {c : Code} {T : State} {locs : List Loc} {cells slots : Nat}
    (X : Stand p l e R s m args below meth c T locs cells slots) (hx : p.tables.exec = Jvm.exec) (hZ : Z.Warmed39 s.vm) (eT : T.heap = h) (F : own_Ar Z h a .double L) {j : Int32} {x : UInt64} {i : Nat} (hi : j.toNatClampNeg = i) (hj : ¬ j < 0) (hl : i < L.length) {L' : List Value} (hL : L.set i (.double x) = L')
    {g : JFrame} (hg : g.method = m) {rest : List Value} (hs : g.stack = .double x :: .int j :: .ref a :: rest) (hd : decode c.code g.pc = .ok (.dastore, 1)) :
    ∃ T' h', Stand p l e R s m args below meth c T' (locs ++ [⟨a, i⟩]) cells slots ∧ T'.heap = h' ∧ Wr h h' a i (.double x) ∧ own_Ar Z h' a .double L' ∧ ∀ target, Steps p.tables e below (T'.setTop { g with pc := g.pc + 1, stack := rest }) target → Steps p.tables e below (T.setTop g) target := by
  subst hi
  obtain ⟨cl, A, r⟩ := F
  obtain ⟨T', h', X', e', W, st⟩ := stD X hx hZ eT A (own_in_of r hj hl) hg hs hd
  exact ⟨T', h', X', e', W, own_Ar_same ⟨cl, A, r⟩ W hL, st⟩
theorem own_retD {p : Program} {l : Launch} {e : Env} {R : Room} {s : State} {m : MethodId} {args : Array Value} {below : List Frame} {meth : Method} {c : Code} {T : State} {locs : List Loc} {cells slots : Nat} (X : Stand p l e R s m args below meth c T locs cells slots) (hx : p.tables.exec = Jvm.exec) (hlk : meth.locks = false) {K N pc : Nat} {Ls : Array Slot} {z : UInt64} {rest : List Value} {Q : Option Value → Heap → List Loc → Prop} (hret : meth.sig.returnType = some .double)
    (hd : decode c.code pc = .ok (.dreturn, 1)) (hK : cells ≤ K) (hN : slots ≤ N) (hQ : Q (some (.double z)) T.heap locs) :
    own_G p.tables e below (fun o U' => ∃ v L, o = .returned v ∧ Q v U'.heap L ∧ FrameEnd s o U' L K N) (T.setTop (mkF m pc Ls (.double z :: rest))) :=
  own_ret X hx hlk hret rfl (Or.inr (Or.inr (Or.inl ⟨rfl, rfl, z, rfl⟩))) hd hK hN hQ
theorem own_cast {tb : Tables} {e : Env} {below : List Frame} {F : Outcome → State → Prop} {A B : State} (h : A = B) (k : own_G tb e below F B) : own_G tb e below F A := h ▸ k
def own_c (x y : UInt64) : Int32 := cmpValue (FP.dcmp x y) .l
def own_cg (x y : UInt64) : Int32 := cmpValue (FP.dcmp x y) .g
/-! own layer: bodies that load String constants: the Stand is over (s.setVm vm), ReturnedEndW ends them -/
theorem own_since0 (s : State) (n : Nat) : s.Since s.vm n := (State.WarmedH.refl s).since n
section OwnW
variable {p : Program} {l : Launch} {e : Env} {R : Room} {s : State} {vm : Vm} {m : MethodId} {args : Array Value} {below : List Frame} {meth : Method} {c : Code} {T : State} {locs : List Loc} {cells slots : Nat} {kk : Nat}
theorem own_retW (X : Stand p l e R (s.setVm vm) m args below meth c T locs cells slots) (hx : p.tables.exec = Jvm.exec) (hlk : meth.locks = false) (hS : s.Since vm kk) (hk : kk ≤ T.heap.size) {K N pc : Nat} {Ls : Array Slot} {w : Value} {t : FieldType} {i : Instr} {rest : List Value} {Q : Option Value → Heap → List Loc → Prop} (hret : meth.sig.returnType = some t) (hn : narrow t w = w)
    (hi : (i = .ireturn ∧ (t = .int ∨ t = .boolean ∨ t = .byte ∨ t = .char ∨ t = .short) ∧ ∃ z, w = .int z) ∨ (i = .lreturn ∧ t = .long ∧ ∃ z, w = .long z) ∨ (i = .dreturn ∧ t = .double ∧ ∃ z, w = .double z) ∨ (i = .freturn ∧ t = .float ∧ ∃ z, w = .float z) ∨ (i = .areturn ∧ t.isReference = true ∧ w.isRef = true))
    (hd : decode c.code pc = .ok (i, 1)) (hK : cells ≤ K) (hN : slots ≤ N) (hQ : Q (some w) T.heap locs) :
    own_G p.tables e below (fun o U' => ∃ v L, o = .returned v ∧ Q v U'.heap L ∧ ReturnedEndW s o U' L K N) (T.setTop (mkF m pc Ls (w :: rest))) := by
  obtain ⟨fs, hr, hrun, hended, a, b, d, f⟩ := X.leaveW hS hk (v := some w) (fun h => by rw [hret] at h; cases h) hlk
  exact ⟨_, _, retOut X hx hret hn hi hd hr, hrun, hended, _, _, rfl, hQ, a, b, d, f.mono hK hN⟩
theorem own_retWI (X : Stand p l e R (s.setVm vm) m args below meth c T locs cells slots) (hx : p.tables.exec = Jvm.exec) (hlk : meth.locks = false) (hS : s.Since vm kk) (hk : kk ≤ T.heap.size) {K N pc : Nat} {Ls : Array Slot} {z : Int32} {rest : List Value} {Q : Option Value → Heap → List Loc → Prop} (hret : meth.sig.returnType = some .int)
    (hd : decode c.code pc = .ok (.ireturn, 1)) (hK : cells ≤ K) (hN : slots ≤ N) (hQ : Q (some (.int z)) T.heap locs) :
    own_G p.tables e below (fun o U' => ∃ v L, o = .returned v ∧ Q v U'.heap L ∧ ReturnedEndW s o U' L K N) (T.setTop (mkF m pc Ls (.int z :: rest))) :=
  own_retW X hx hlk hS hk hret rfl (Or.inl ⟨rfl, Or.inl rfl, z, rfl⟩) hd hK hN hQ
theorem own_retWZ (X : Stand p l e R (s.setVm vm) m args below meth c T locs cells slots) (hx : p.tables.exec = Jvm.exec) (hlk : meth.locks = false) (hS : s.Since vm kk) (hk : kk ≤ T.heap.size) {K N pc : Nat} {Ls : Array Slot} {z : Int32} {rest : List Value} {Q : Option Value → Heap → List Loc → Prop} (hret : meth.sig.returnType = some .boolean)
    (hd : decode c.code pc = .ok (.ireturn, 1)) (hz : z = 0 ∨ z = 1) (hK : cells ≤ K) (hN : slots ≤ N) (hQ : Q (some (.int z)) T.heap locs) :
    own_G p.tables e below (fun o U' => ∃ v L, o = .returned v ∧ Q v U'.heap L ∧ ReturnedEndW s o U' L K N) (T.setTop (mkF m pc Ls (.int z :: rest))) :=
  own_retW X hx hlk hS hk hret (by rcases hz with rfl | rfl <;> rfl) (Or.inl ⟨rfl, Or.inr (Or.inl rfl), z, rfl⟩) hd hK hN hQ
theorem own_retWA (X : Stand p l e R (s.setVm vm) m args below meth c T locs cells slots) (hx : p.tables.exec = Jvm.exec) (hlk : meth.locks = false) (hS : s.Since vm kk) (hk : kk ≤ T.heap.size) {K N pc : Nat} {Ls : Array Slot} {w : Value} {t : FieldType} {rest : List Value} {Q : Option Value → Heap → List Loc → Prop} (hret : meth.sig.returnType = some t) (ht : t.isReference = true) (hw : w.isRef = true)
    (hd : decode c.code pc = .ok (.areturn, 1)) (hK : cells ≤ K) (hN : slots ≤ N) (hQ : Q (some w) T.heap locs) :
    own_G p.tables e below (fun o U' => ∃ v L, o = .returned v ∧ Q v U'.heap L ∧ ReturnedEndW s o U' L K N) (T.setTop (mkF m pc Ls (w :: rest))) :=
  own_retW X hx hlk hS hk hret (by cases t <;> first | (cases ht; done) | (rcases ref_cases hw with rfl | ⟨z, rfl⟩ <;> rfl)) (Or.inr (Or.inr (Or.inr (Or.inr ⟨rfl, ht, hw⟩)))) hd hK hN hQ
theorem own_retWV (X : Stand p l e R (s.setVm vm) m args below meth c T locs cells slots) (hx : p.tables.exec = Jvm.exec) (hlk : meth.locks = false) (hS : s.Since vm kk) (hk : kk ≤ T.heap.size) {K N pc : Nat} {Ls : Array Slot} {Q : Option Value → Heap → List Loc → Prop} (hret : meth.sig.returnType = none)
    (hd : decode c.code pc = .ok (.return_, 1)) (hK : cells ≤ K) (hN : slots ≤ N) (hQ : Q none T.heap locs) :
    own_G p.tables e below (fun o U' => ∃ v L, o = .returned v ∧ Q v U'.heap L ∧ ReturnedEndW s o U' L K N) (T.setTop (mkF m pc Ls [])) := by
  obtain ⟨fs, hr, hrun, hended, a, b, d, f⟩ := X.leaveW hS hk (v := none) (fun _ => rfl) hlk
  exact ⟨_, _, X.returnOut hx hret hd hr, hrun, hended, _, _, rfl, hQ, a, b, d, f.mono hK hN⟩
end OwnW
/-! own layer: int arrays of which only the length is known -/
def own_An (Z : State) (h : Heap) (a : Addr) (N : Nat) : Prop := ∃ c : Cell, Arr Z h a c .int ∧ c.slots.size = N
section OwnAn
variable {Z : State} {h h' : Heap} {a b : Addr} {N : Nat}
theorem own_An_new {cA : ClassId} {n : Int32} (A : Arr Z h a (newA cA .int n) .int) (hN : n.toNatClampNeg = N) : own_An Z h a N := ⟨_, A, by rw [sz_new, hN]⟩
theorem own_An_ext (F : own_An Z h a N) (E : Ext h h') : own_An Z h' a N := by obtain ⟨c, A, r⟩ := F; exact ⟨c, A.ext E, r⟩
theorem own_An_other {sl : Nat} {v : Value} (F : own_An Z h b N) (W : Wr h h' a sl v) (q : b ≠ a) : own_An Z h' b N := by obtain ⟨c, A, r⟩ := F; exact ⟨c, A.other W q, r⟩
theorem own_An_keep {ws : List Addr} (F : own_An Z h a N) (K : Keep h h' ws) (q : a ∉ ws) : own_An Z h' a N := by obtain ⟨c, A, r⟩ := F; exact ⟨c, ⟨K.2.1 a c A.1 q, A.2⟩, r⟩
theorem own_An_lt (F : own_An Z h a N) : a < h.size := by obtain ⟨c, A, -⟩ := F; exact A.lt
theorem own_An_same {i : Nat} {v : Value} (F : own_An Z h a N) (W : Wr h h' a i v) : own_An Z h' a N := by
  obtain ⟨c, A, r⟩ := F
  exact ⟨_, A.same W, by rw [sz_set]; exact r⟩
variable {p : Program} {l : Launch} {e : Env} {R : Room} {s : State} {m : MethodId} {args : Array Value} {below : List Frame} {meth : Method} {c : Code} {T : State} {locs : List Loc} {cells slots : Nat}
theorem own_stN (X : Stand p l e R s m args below meth c T locs cells slots) (hx : p.tables.exec = Jvm.exec) (hZ : Z.Warmed39 s.vm) (eT : T.heap = h) (F : own_An Z h a N) {j x : Int32} (hj : ¬ j < 0) (hl : j.toNatClampNeg < N)
    {g : JFrame} (hg : g.method = m) {rest : List Value} (hs : g.stack = .int x :: .int j :: .ref a :: rest) (hd : decode c.code g.pc = .ok (.iastore, 1)) :
    ∃ T' h', Stand p l e R s m args below meth c T' (locs ++ [⟨a, j.toNatClampNeg⟩]) cells slots ∧ T'.heap = h' ∧ Wr h h' a j.toNatClampNeg (.int x) ∧ own_An Z h' a N ∧ ∀ target, Steps p.tables e below (T'.setTop { g with pc := g.pc + 1, stack := rest }) target → Steps p.tables e below (T.setTop g) target := by
  obtain ⟨cl, A, r⟩ := F
  obtain ⟨T', h', X', e', W, st⟩ := stI X hx hZ eT A (fun q => q.elim hj (fun z => by rw [r] at z; exact absurd hl (Nat.not_lt.mpr z))) hg hs hd
  exact ⟨T', h', X', e', W, own_An_same ⟨cl, A, r⟩ W, st⟩
theorem own_alenN (X : Stand p l e R s m args below meth c T locs cells slots) (hx : p.tables.exec = Jvm.exec) (hZ : Z.Warmed39 s.vm) (eT : T.heap = h) (F : own_An Z h a N) {g : JFrame} (hg : g.method = m) {rest : List Value} (hs : g.stack = .ref a :: rest) (hd : decode c.code g.pc = .ok (.arraylength, 1)) :
    ∀ target, Steps p.tables e below (T.setTop { g with pc := g.pc + 1, stack := .int N.toInt32 :: rest }) target → Steps p.tables e below (T.setTop g) target := by
  obtain ⟨cl, A, r⟩ := F
  rw [← r]
  exact fun t k => X.arraylength hx (by rw [eT]; exact A.1) (State.isArrayOf_alike hZ.alike A.2.1) hg hs hd t k
end OwnAn
theorem own_notinst {Z : State} {a0 : Array Value} {O K : String} {n : Nat} (w : (Jvm.Cond.noSuperclass O).before a0 Z = true) (wi : (Jvm.Cond.instantiable K n).before a0 Z = true) (hn : O ≠ K) : NS Z O K := by
  obtain ⟨t, kt, g1, g2, -⟩ := Cond.instantiable_spec wi
  obtain ⟨c, k, h1, h2, h3, -⟩ := Cond.noSuperclass_spec w
  have hne : c ≠ t := ids_ne h1 g1 hn
  refine ⟨c, t, h1, g1, ?_⟩
  intro fuel
  induction fuel with
  | zero => rfl
  | succ f _ => simp [Vm.isSubclassAux, hne, h2, h3]
theorem own_noasg {Z : State} {a0 : Array Value} {C S K : String} {n : Nat} (w : (Jvm.Cond.superclass C S).before a0 Z = true) (wi : (Jvm.Cond.instantiable K n).before a0 Z = true) (q : NS Z C K) (hn : C ≠ K) : ∃ c t, Z.vm.findClass C = some c ∧ Z.vm.findClass K = some t ∧ Z.vm.assignable c t = false := by
  obtain ⟨c, t, h0, g0, n3⟩ := q
  obtain ⟨t', kt, g1, g2, g3, g4, -⟩ := Cond.instantiable_spec wi
  cases g0.symm.trans g1
  obtain ⟨p, k, kp, h1, h2, h3, h4, h5, -, h7⟩ := Cond.superclass_spec h0 w
  have hne : c ≠ t := ids_ne h0 g0 hn
  have g5 : kt.isInterface = false := by simp only [Bool.or_eq_false_iff] at g4; exact g4.1
  refine ⟨c, t, h0, g0, ?_⟩
  show Z.vm.assignableAux (255 + 1) c t = false
  simp [Vm.assignableAux, hne, h2, g2, h5, g3, g5, Vm.isSubclass, n3]
theorem own_selp {Z s : State} {a0 args : Array Value} {y : MethodName} {n : Nat} (hZ : Z.Warmed39 s.vm) (wi : (Jvm.Cond.instantiable y.cls n).before a0 Z = true) (wp : (Jvm.Cond.privateMethod y).before a0 Z = true) (wm : (Jvm.Cond.instanceMethod y).before a0 Z = true) (hy : y.cls ≠ "java/lang/invoke/MethodHandle" ∧ y.cls ≠ "java/lang/invoke/VarHandle") : (Jvm.Cond.selects y.cls y y).before args s = true := by
  obtain ⟨c, k, h1, h2, -, h4, -⟩ := Cond.instantiable_spec (mv (args := args) hZ wi)
  simp only [Bool.or_eq_false_iff] at h4
  exact selects_self_of_private h1 h2 h4.1 (Cond.privateMethod_at (mvP hZ wp (args := args))) (mv hZ wm) hy
abbrev own_y1 : MethodName := ⟨"com/example/honeybee/honeybee/device/DerReader", "<init>", "([BII)V"⟩
abbrev own_y2 : MethodName := ⟨"com/example/honeybee/honeybee/device/DerReader", "header", "(ILjava/lang/String;)I"⟩
abbrev own_y3 : MethodName := ⟨"jdk/internal/util/Preconditions", "checkFromIndexSize", "(IIILjava/util/function/BiFunction;)I"⟩
abbrev own_y4 : MethodName := ⟨"java/lang/Number", "<init>", "()V"⟩
abbrev own_y5 : MethodName := ⟨"java/util/Objects", "checkFromIndexSize", "(III)I"⟩
abbrev own_y6 : MethodName := ⟨"java/math/BigInteger", "stripLeadingZeroBytes", "(I[BII)[I"⟩
abbrev own_y7 : MethodName := ⟨"java/math/BigInteger", "makePositive", "(I[BII)[I"⟩
abbrev own_y8 : MethodName := ⟨"java/math/BigInteger", "<init>", "([BII)V"⟩
abbrev own_y9 : MethodName := ⟨"java/util/Arrays", "checkLength", "(II)V"⟩
abbrev own_y10 : MethodName := ⟨"java/lang/Math", "min", "(II)I"⟩
abbrev own_y11 : MethodName := ⟨"java/util/Arrays", "copyOfRangeByte", "([BII)[B"⟩
abbrev own_y12 : MethodName := ⟨"java/util/Arrays", "copyOfRange", "([BII)[B"⟩
abbrev own_y13 : MethodName := ⟨"java/math/BigInteger", "<init>", "([B)V"⟩
abbrev own_y14 : MethodName := ⟨"com/example/honeybee/honeybee/device/DerReader", "integer", "()Ljava/math/BigInteger;"⟩
abbrev own_y15 : MethodName := ⟨"com/example/honeybee/honeybee/device/DerReader", "nullValue", "()V"⟩
abbrev own_y16 : MethodName := ⟨"com/example/honeybee/honeybee/device/DerReader", "<init>", "([B)V"⟩
abbrev own_y17 : MethodName := ⟨"com/example/honeybee/honeybee/device/DerReader", "atEnd", "()Z"⟩
abbrev own_y18 : MethodName := ⟨"com/example/honeybee/honeybee/device/DerReader", "sequence", "()Lcom/example/honeybee/honeybee/device/DerReader;"⟩
abbrev own_y19 : MethodName := ⟨"com/example/honeybee/honeybee/device/DerReaderAtEndPinLaw", "readOne", "(Lcom/example/honeybee/honeybee/device/DerReader;Z)V"⟩
theorem own_pd1 : parseMethodDescriptor "([BII)V" = some ⟨[(.array .byte), .int, .int], none⟩ := by decide +kernel
theorem own_pd2 : parseMethodDescriptor "(ILjava/lang/String;)I" = some ⟨[.int, (.object "java/lang/String")], (some .int)⟩ := by decide +kernel
theorem own_pd3 : parseMethodDescriptor "(IIILjava/util/function/BiFunction;)I" = some ⟨[.int, .int, .int, (.object "java/util/function/BiFunction")], (some .int)⟩ := by decide +kernel
theorem own_pd4 : parseMethodDescriptor "()V" = some ⟨[], none⟩ := by decide +kernel
theorem own_pd5 : parseMethodDescriptor "(III)I" = some ⟨[.int, .int, .int], (some .int)⟩ := by decide +kernel
theorem own_pd6 : parseMethodDescriptor "(I[BII)[I" = some ⟨[.int, (.array .byte), .int, .int], (some (.array .int))⟩ := by decide +kernel
theorem own_pd7 : parseMethodDescriptor "(II)V" = some ⟨[.int, .int], none⟩ := by decide +kernel
theorem own_pd8 : parseMethodDescriptor "(II)I" = some ⟨[.int, .int], (some .int)⟩ := by decide +kernel
theorem own_pd9 : parseMethodDescriptor "([BII)[B" = some ⟨[(.array .byte), .int, .int], (some (.array .byte))⟩ := by decide +kernel
theorem own_pd10 : parseMethodDescriptor "([B)V" = some ⟨[(.array .byte)], none⟩ := by decide +kernel
theorem own_pd11 : parseMethodDescriptor "()Ljava/math/BigInteger;" = some ⟨[], (some (.object "java/math/BigInteger"))⟩ := by decide +kernel
theorem own_pd12 : parseMethodDescriptor "()Z" = some ⟨[], (some .boolean)⟩ := by decide +kernel
theorem own_pd13 : parseMethodDescriptor "()Lcom/example/honeybee/honeybee/device/DerReader;" = some ⟨[], (some (.object "com/example/honeybee/honeybee/device/DerReader"))⟩ := by decide +kernel
theorem own_pd14 : parseMethodDescriptor "(Lcom/example/honeybee/honeybee/device/DerReader;Z)V" = some ⟨[(.object "com/example/honeybee/honeybee/device/DerReader"), .boolean], none⟩ := by decide +kernel

def own_min (x y : Int32) : Int32 := if y < x then y else x
def own_max (x y : Int32) : Int32 := if x < y then y else x
theorem own_min_spec (x y : Int32) : (own_min x y).toInt = min x.toInt y.toInt := by
  unfold own_min
  split
  · rename_i h; rw [Int32.lt_iff_toInt_lt] at h; omega
  · rename_i h; rw [Int32.lt_iff_toInt_lt] at h; omega
theorem own_max_spec (x y : Int32) : (own_max x y).toInt = max x.toInt y.toInt := by
  unfold own_max
  split
  · rename_i h; rw [Int32.lt_iff_toInt_lt] at h; omega
  · rename_i h; rw [Int32.lt_iff_toInt_lt] at h; omega

def own_eqr (x y : Int32) : Int32 := if x = y then 1 else 0
theorem own_i2b (x : Int32) : nar .byte x.toInt8.toInt32 = x.toInt8.toInt32 := by simp [nar]
theorem own_hws {Z : State} {a0 : Array Value} (hw : ∀ d ∈ tables_1, d.before a0 Z = true) : ∀ a ∈ Bundle.stringAtoms, a.before a0 Z = true := by
  intro a ha
  simp only [Bundle.stringAtoms, List.mem_cons, List.not_mem_nil, or_false] at ha
  rcases ha with rfl | rfl | rfl | rfl | rfl | rfl | rfl
  · exact hw _ (List.mem_of_getElem? (i := 31) rfl)
  · exact hw _ (List.mem_of_getElem? (i := 32) rfl)
  · exact hw _ (List.mem_of_getElem? (i := 1) rfl)
  · exact hw _ (List.mem_of_getElem? (i := 33) rfl)
  · exact hw _ (List.mem_of_getElem? (i := 34) rfl)
  · exact hw _ (List.mem_of_getElem? (i := 35) rfl)
  · exact hw _ (List.mem_of_getElem? (i := 36) rfl)

theorem own_fits8 {lw px py : Int32} (hl : fits .byte (.int lw) = true) (hx : fits .byte (.int px) = true) (hy : fits .byte (.int py) = true) : ∀ v ∈ ([(.int (48 : Int32)), (.int lw), (.int (2 : Int32)), (.int (1 : Int32)), (.int px), (.int (2 : Int32)), (.int (1 : Int32)), (.int py)] : List Value), fits .byte v = true := by
  intro v hv
  simp only [List.mem_cons, List.not_mem_nil, or_false] at hv
  rcases hv with rfl | rfl | rfl | rfl | rfl | rfl | rfl | rfl
  · decide
  · exact hl
  · decide
  · decide
  · exact hx
  · decide
  · decide
  · exact hy
theorem own_fits1 : ∀ v ∈ ([(.int (0 : Int32))] : List Value), fits .byte v = true := by
  intro v hv
  simp only [List.mem_cons, List.not_mem_nil, or_false] at hv
  subst hv
  decide
theorem own_m128 {x : Int32} (h : ¬ x < (0 : Int32)) : ¬ x < (-128 : Int32) := by
  rw [Int32.lt_iff_toInt_lt] at *
  have e : (-128 : Int32).toInt = -128 := by decide
  have e0 : (0 : Int32).toInt = 0 := by decide
  omega
theorem own_ltne {x : Int32} (h : x < (0 : Int32)) : ¬ x = (0 : Int32) := by
  rintro rfl
  exact absurd h (by decide)
theorem own_or0 {x y : Int32} (h : x ||| y = 0) : x = 0 ∧ y = 0 := by
  have h1 := congrArg Int32.toBitVec h
  rw [Int32.toBitVec_or] at h1
  have h2 := BitVec.or_eq_zero_iff.mp h1
  exact ⟨Int32.toBitVec_inj.mp h2.1, Int32.toBitVec_inj.mp h2.2⟩
theorem own_mpB {z x : Int32} (h : z = ((-256 : Int32) ||| x)) : ¬ z = (0 : Int32) := fun q => absurd (own_or0 (h.symm.trans q)).1 (by decide)
theorem own_mpA {z x y : Int32} (h : z = ((-256 : Int32) ||| x)) : ¬ (((0 : Int32) ||| z) ||| y) = (0 : Int32) := fun q => own_mpB h (own_or0 (own_or0 q).1).2
theorem own_lm {L : List Value} (h : L.length ≤ 1) : L.length.toInt32 < (67108864 : Int32) := by
  have h2 : L.length = 0 ∨ L.length = 1 := by omega
  rcases h2 with h2 | h2 <;> rw [h2] <;> decide
theorem own_mod7 (x : Int32) : ((x &&& (2147483647 : Int32)) % (7 : Int32)) = 0 ∨ ((x &&& (2147483647 : Int32)) % (7 : Int32)) = 1 ∨ ((x &&& (2147483647 : Int32)) % (7 : Int32)) = 2 ∨ ((x &&& (2147483647 : Int32)) % (7 : Int32)) = 3 ∨ ((x &&& (2147483647 : Int32)) % (7 : Int32)) = 4 ∨ ((x &&& (2147483647 : Int32)) % (7 : Int32)) = 5 ∨ ((x &&& (2147483647 : Int32)) % (7 : Int32)) = 6 := by
  have m := c_mask x (2147483647 : Int32) 31 (by decide) (by decide)
  generalize (x &&& (2147483647 : Int32)) = y at m
  have hy : 0 ≤ y.toInt := by rw [m]; exact Int.emod_nonneg _ (by decide)
  have r := (c_irem y (7 : Int32) 7 (by decide)).1 hy
  generalize y % (7 : Int32) = z at r
  have h1 : 0 ≤ z.toInt ∧ z.toInt < 7 := by rw [r]; exact ⟨Int.emod_nonneg _ (by decide), Int.emod_lt_of_pos _ (by decide)⟩
  have h2 : z.toInt = 0 ∨ z.toInt = 1 ∨ z.toInt = 2 ∨ z.toInt = 3 ∨ z.toInt = 4 ∨ z.toInt = 5 ∨ z.toInt = 6 := by omega
  have k : ∀ w : Int32, z.toInt = w.toInt → z = w := fun w q => Int32.toInt_inj.mp q
  rcases h2 with h2 | h2 | h2 | h2 | h2 | h2 | h2
  · exact Or.inl (k 0 h2)
  · exact Or.inr (Or.inl (k 1 h2))
  · exact Or.inr (Or.inr (Or.inl (k 2 h2)))
  · exact Or.inr (Or.inr (Or.inr (Or.inl (k 3 h2))))
  · exact Or.inr (Or.inr (Or.inr (Or.inr (Or.inl (k 4 h2)))))
  · exact Or.inr (Or.inr (Or.inr (Or.inr (Or.inr (Or.inl (k 5 h2))))))
  · exact Or.inr (Or.inr (Or.inr (Or.inr (Or.inr (Or.inr (k 6 h2))))))
theorem own_b7 {z : Int32} (h : z = 0 ∨ z = 1 ∨ z = 2 ∨ z = 3 ∨ z = 4 ∨ z = 5 ∨ z = 6) : z.toInt8.toInt32 = z := by
  rcases h with rfl | rfl | rfl | rfl | rfl | rfl | rfl <;> decide
theorem own_q3 {z : Int32} (h : z = 0 ∨ z = 1 ∨ z = 2 ∨ z = 3 ∨ z = 4 ∨ z = 5 ∨ z = 6) : (z &&& (255 : Int32)) = z := by
  rcases h with rfl | rfl | rfl | rfl | rfl | rfl | rfl <;> decide
theorem own_q4 {z : Int32} (h : z = 0 ∨ z = 1 ∨ z = 2 ∨ z = 3 ∨ z = 4 ∨ z = 5 ∨ z = 6) : z < (128 : Int32) := by
  rcases h with rfl | rfl | rfl | rfl | rfl | rfl | rfl <;> decide
theorem own_q5 {z : Int32} (h : z = 0 ∨ z = 1 ∨ z = 2 ∨ z = 3 ∨ z = 4 ∨ z = 5 ∨ z = 6) : ¬ ((8 : Int32) - (2 : Int32)) < z := by
  rcases h with rfl | rfl | rfl | rfl | rfl | rfl | rfl <;> decide

theorem own_len {s : State} {args : Array Value} {t : Term} {a : Addr} {cl : Cell} {n : Int32} (ht : t.eval args s none [] s = some (.ref a)) (ha : s.arrayAt? a = some cl) (h : (Term.length t).eval args s none [] s = some (.int n)) : cl.slots.size < 2 ^ 31 ∧ cl.slots.size.toInt32 = n := by
  by_cases hl : cl.slots.size < 2 ^ 31
  · rw [len_f ht ha hl] at h
    exact ⟨hl, by cases h; rfl⟩
  · simp [Term.eval, ht, ha, hl] at h
theorem own_sz0 {n : Nat} (h1 : n < 2 ^ 31) (h2 : n.toInt32 = 0) : n = 0 := by
  have h3 : (Int32.ofNat n).toInt = n := Int32.toInt_ofNat_of_lt h1
  have h4 : (Int32.ofNat n).toInt = 0 := by rw [show Int32.ofNat n = 0 from h2]; rfl
  omega
theorem own_empty {s : State} {args : Array Value} {t : Term} {a : Addr} (ev : t.eval args s none [] s = some (.ref a)) (h4 : (Jvm.Cond.arrayOf t FieldType.int).value args s none s [] = some true) (h6 : (Jvm.Cond.eq (Term.length t) (Term.int (0 : Int32))).value args s none s [] = some true) : own_Ar s s.heap a .int [] := by
  obtain ⟨cl, A⟩ := Arr.start ev h4
  obtain ⟨z1, z2⟩ := own_len ev (A.fin (Vm.Alike.refl _)) (own_eqint h6)
  refine ⟨cl, A, ?_⟩
  have h := own_sz0 z1 z2
  exact List.eq_nil_of_length_eq_zero (by simpa using h)

theorem own_mmin_d0 : decode jdk_29_method_69_code 0 = .ok (.iload_n 0, 1) := by decide +kernel
theorem own_mmin_d1 : decode jdk_29_method_69_code 1 = .ok (.iload_n 1, 1) := by decide +kernel
theorem own_mmin_d2 : decode jdk_29_method_69_code 2 = .ok (.if_icmp .gt 7, 3) := by decide +kernel
theorem own_mmin_d5 : decode jdk_29_method_69_code 5 = .ok (.iload_n 0, 1) := by decide +kernel
theorem own_mmin_d6 : decode jdk_29_method_69_code 6 = .ok (.goto 4, 3) := by decide +kernel
theorem own_mmin_d9 : decode jdk_29_method_69_code 9 = .ok (.iload_n 1, 1) := by decide +kernel
theorem own_mmin_d10 : decode jdk_29_method_69_code 10 = .ok (.ireturn, 1) := by decide +kernel
theorem own_mmin_ef (m : MethodId) (pa : Int32) (pb : Int32) : entryFrame m #[(.int pa), (.int pb)] 2 = mkF m 0 #[iv pa, iv pb] [] := by first | (simp [entryFrame, mkF, argsToLocals, Value.category]; done) | rfl
def own_mmin_Q (Z : State) (pa : Int32) (pb : Int32) (h0 : Heap) (n0 : Nat) (v : Option Value) (h : Heap) (L : List Loc) : Prop := v = some (.int (own_min pa pb)) ∧ Fr n0 L ∧ h = h0
set_option maxRecDepth 65536 in
set_option maxHeartbeats 40000000 in
theorem own_mmin (l : Launch) (Z : State) (a0 : Array Value) (hw : ∀ d ∈ tables_1, d.before a0 Z = true) (ws : List Jvm.Cond) (pa : Int32) (pb : Int32) (h0 : Heap) (n0 : Nat) :
    MetFree l own_y10 (head1 (Jvm.Cond.code own_y10 jdk_29_method_69_code 2 (some .int) :: ws) ({ frames := 0, cells := 0, slots := 0, locals := 0 } : Room)) (fun a U => a = #[(.int pa), (.int pb)] ∧ Z.Warmed39 U.vm ∧ U.heap = h0) (fun _ _ _ _ _ => True) (fun _ U o U' => ∃ v L, o = .returned v ∧ (own_mmin_Q Z pa pb h0 n0) v U'.heap L ∧ FrameEnd U o U' L ({ frames := 0, cells := 0, slots := 0, locals := 0 } : Room).cells ({ frames := 0, cells := 0, slots := 0, locals := 0 } : Room).slots) := by
  refine MetFree.of_bodySF (Jvm.Free.JP.mathPlain rfl (by decide +kernel)) hisR ?_
  intro p e s m args below meth c s₁ Bd hml0 hP hK
  obtain ⟨rfl, hZ, hh⟩ := hP
  have hx := Bd.exec
  have hby := Bd.bytes
  have hml : c.maxLocals = 2 := hml0
  have hown : s.vm.findClass "java/lang/Math" = some m.cls := findClass_of_methodNamed Bd.named
  have hnm := (name_of_methodNamed Bd.named Bd.method).1
  have hlk : meth.locks = false := Bd.notSynchronized
  have X0 : Stand p l e ({ frames := 0, cells := 0, slots := 0, locals := 0 } : Room) s m #[(.int pa), (.int pb)] below meth c s₁ [] 0 0 := Stand.of_body Bd
  have e0 : s₁.heap = h0 := by rw [← hh, Bd.state]; rfl
  have N0 := Fr.nil n0
  show own_G p.tables e below (fun o U' => ∃ v L, o = .returned v ∧ (own_mmin_Q Z pa pb h0 n0) v U'.heap L ∧ FrameEnd s o U' L ({ frames := 0, cells := 0, slots := 0, locals := 0 } : Room).cells ({ frames := 0, cells := 0, slots := 0, locals := 0 } : Room).slots) (s₁.setTop (entryFrame m #[(.int pa), (.int pb)] 2))
  refine own_go (B := s₁.setTop (mkF m 0 #[iv pa, iv pb] [])) (fun t k => castTop (own_mmin_ef m pa pb) k) ?_
  refine own_go (B := (s₁.setTop (mkF m 1 #[iv pa, iv pb] [(.int pa)]))) (fun t k => XS.iloadN X0.here hx rfl (hb hby own_mmin_d0) rfl k) ?_
  refine own_go (B := (s₁.setTop (mkF m 2 #[iv pa, iv pb] [(.int pb), (.int pa)]))) (fun t k => XS.iloadN X0.here hx rfl (hb hby own_mmin_d1) rfl k) ?_
  refine own_icmp X0 hx (hb hby own_mmin_d2) (pc' := 9) (pn := 5) (by decide) (by decide) rfl (fun (hc2 : pb < pa) => ?_) (fun (hc2 : ¬ pb < pa) => ?_)
  · refine own_go (B := (s₁.setTop (mkF m 10 #[iv pa, iv pb] [(.int pb)]))) (fun t k => XS.iloadN X0.here hx rfl (hb hby own_mmin_d9) rfl k) ?_
    exact own_retI X0 hx hlk Bd.returns (hb hby own_mmin_d10) (own_b rfl) (own_b rfl) (Q := (own_mmin_Q Z pa pb h0 n0)) ⟨by rw [own_min, if_pos hc2], N0, e0⟩
  · refine own_go (B := (s₁.setTop (mkF m 6 #[iv pa, iv pb] [(.int pa)]))) (fun t k => XS.iloadN X0.here hx rfl (hb hby own_mmin_d5) rfl k) ?_
    refine own_go (B := (s₁.setTop (mkF m 10 #[iv pa, iv pb] [(.int pa)]))) (fun t k => XS.goto X0.here hx rfl (pc0 := 6) (pc' := 10) rfl (hb hby own_mmin_d6) (by decide) (by decide) k) ?_
    exact own_retI X0 hx hlk Bd.returns (hb hby own_mmin_d10) (own_b rfl) (own_b rfl) (Q := (own_mmin_Q Z pa pb h0 n0)) ⟨by rw [own_min, if_neg hc2], N0, e0⟩

theorem own_ct3_d0 : decode prog_1_method_2_code 0 = .ok (.aload_n 0, 1) := by decide +kernel
theorem own_ct3_d1 : decode prog_1_method_2_code 1 = .ok (.invokespecial 7, 3) := by decide +kernel
theorem own_ct3_d4 : decode prog_1_method_2_code 4 = .ok (.aload_n 0, 1) := by decide +kernel
theorem own_ct3_d5 : decode prog_1_method_2_code 5 = .ok (.aload_n 1, 1) := by decide +kernel
theorem own_ct3_d6 : decode prog_1_method_2_code 6 = .ok (.putfield 12, 3) := by decide +kernel
theorem own_ct3_d9 : decode prog_1_method_2_code 9 = .ok (.aload_n 0, 1) := by decide +kernel
theorem own_ct3_d10 : decode prog_1_method_2_code 10 = .ok (.iload_n 2, 1) := by decide +kernel
theorem own_ct3_d11 : decode prog_1_method_2_code 11 = .ok (.putfield 16, 3) := by decide +kernel
theorem own_ct3_d14 : decode prog_1_method_2_code 14 = .ok (.aload_n 0, 1) := by decide +kernel
theorem own_ct3_d15 : decode prog_1_method_2_code 15 = .ok (.iload_n 3, 1) := by decide +kernel
theorem own_ct3_d16 : decode prog_1_method_2_code 16 = .ok (.putfield 20, 3) := by decide +kernel
theorem own_ct3_d19 : decode prog_1_method_2_code 19 = .ok (.return_, 1) := by decide +kernel
theorem own_ct3_pn : plainName "com/example/honeybee/honeybee/device/DerReader" = true := by first | (simp [plainName, overriddenIn]; done) | decide +kernel
theorem own_ct3_ef (m : MethodId) (th : Addr) (pb : Addr) (ps : Int32) (pe : Int32) : entryFrame m #[(.ref th), (.ref pb), (.int ps), (.int pe)] 4 = mkF m 0 #[rv th, rv pb, iv ps, iv pe] [] := by first | (simp [entryFrame, mkF, argsToLocals, Value.category]; done) | rfl
def own_ct3_Q (Z : State) (th : Addr) (pb : Addr) (ps : Int32) (pe : Int32) (h0 : Heap) (n0 : Nat) (v : Option Value) (h : Heap) (L : List Loc) : Prop := v = none ∧ Fr n0 L ∧ Keep h0 h [th] ∧ Exa Z h th "com/example/honeybee/honeybee/device/DerReader" ∧ Fld Z h th "com/example/honeybee/honeybee/device/DerReader" "bytes" "[B" (.ref pb) ∧ Fld Z h th "com/example/honeybee/honeybee/device/DerReader" "position" "I" (.int ps) ∧ Fld Z h th "com/example/honeybee/honeybee/device/DerReader" "end" "I" (.int pe)
set_option maxRecDepth 65536 in
set_option maxHeartbeats 40000000 in
theorem own_ct3 (l : Launch) (Z : State) (a0 : Array Value) (hw : ∀ d ∈ tables_1, d.before a0 Z = true) (ws : List Jvm.Cond) (th : Addr) (pb : Addr) (ps : Int32) (pe : Int32) (h0 : Heap) (n0 : Nat) (Z0 : n0 ≤ h0.size) (E0 : Exa Z h0 th "com/example/honeybee/honeybee/device/DerReader") (g0 : n0 ≤ th) (F9000 : Fld Z h0 th "com/example/honeybee/honeybee/device/DerReader" "bytes" "[B" .null) (F9001 : Fld Z h0 th "com/example/honeybee/honeybee/device/DerReader" "position" "I" (.int (0 : Int32))) (F9002 : Fld Z h0 th "com/example/honeybee/honeybee/device/DerReader" "end" "I" (.int (0 : Int32))) :
    MetFree l own_y1 (head1 (Jvm.Cond.code own_y1 prog_1_method_2_code 4 none :: ws) ({ frames := 1, cells := 0, slots := 0, locals := 12 } : Room)) (fun a U => a = #[(.ref th), (.ref pb), (.int ps), (.int pe)] ∧ Z.Warmed39 U.vm ∧ U.heap = h0) (fun _ _ _ _ _ => True) (fun _ U o U' => ∃ v L, o = .returned v ∧ (own_ct3_Q Z th pb ps pe h0 n0) v U'.heap L ∧ FrameEnd U o U' L ({ frames := 1, cells := 0, slots := 0, locals := 12 } : Room).cells ({ frames := 1, cells := 0, slots := 0, locals := 12 } : Room).slots) := by
  refine MetFree.of_bodySF (plainFor_of_name own_ct3_pn) hisR ?_
  intro p e s m args below meth c s₁ Bd hml0 hP hK
  obtain ⟨rfl, hZ, hh⟩ := hP
  have hx := Bd.exec
  have hby := Bd.bytes
  have hml : c.maxLocals = 4 := hml0
  have hown : s.vm.findClass "com/example/honeybee/honeybee/device/DerReader" = some m.cls := findClass_of_methodNamed Bd.named
  have hnm := (name_of_methodNamed Bd.named Bd.method).1
  have hlk : meth.locks = false := Bd.notSynchronized
  have X0 : Stand p l e ({ frames := 1, cells := 0, slots := 0, locals := 12 } : Room) s m #[(.ref th), (.ref pb), (.int ps), (.int pe)] below meth c s₁ [] 0 0 := Stand.of_body Bd
  have e0 : s₁.heap = h0 := by rw [← hh, Bd.state]; rfl
  have N0 := Fr.nil n0
  have w_3 := hw _ (List.mem_of_getElem? (l := tables_1) (i := 3) rfl)
  have w_11 := hw _ (List.mem_of_getElem? (l := tables_1) (i := 11) rfl)
  have w_12 := hw _ (List.mem_of_getElem? (l := tables_1) (i := 12) rfl)
  have w_13 := hw _ (List.mem_of_getElem? (l := tables_1) (i := 13) rfl)
  have w_14 := hw _ (List.mem_of_getElem? (l := tables_1) (i := 14) rfl)
  have w_15 := hw _ (List.mem_of_getElem? (l := tables_1) (i := 15) rfl)
  have w_16 := hw _ (List.mem_of_getElem? (l := tables_1) (i := 16) rfl)
  have w_17 := hw _ (List.mem_of_getElem? (l := tables_1) (i := 17) rfl)
  have w_18 := hw _ (List.mem_of_getElem? (l := tables_1) (i := 18) rfl)
  have w_19 := hw _ (List.mem_of_getElem? (l := tables_1) (i := 19) rfl)
  show own_G p.tables e below (fun o U' => ∃ v L, o = .returned v ∧ (own_ct3_Q Z th pb ps pe h0 n0) v U'.heap L ∧ FrameEnd s o U' L ({ frames := 1, cells := 0, slots := 0, locals := 12 } : Room).cells ({ frames := 1, cells := 0, slots := 0, locals := 12 } : Room).slots) (s₁.setTop (entryFrame m #[(.ref th), (.ref pb), (.int ps), (.int pe)] 4))
  refine own_go (B := s₁.setTop (mkF m 0 #[rv th, rv pb, iv ps, iv pe] [])) (fun t k => castTop (own_ct3_ef m th pb ps pe) k) ?_
  have K0 := Keep.refl h0 [th]
  refine own_go (B := (s₁.setTop (mkF m 1 #[rv th, rv pb, iv ps, iv pe] [(.ref th)]))) (fun t k => XS.aloadN X0.here hx rfl (hb hby own_ct3_d0) rfl rfl k) ?_
  obtain ⟨T1, X1, e1, st1⟩ := initO X0 hx hZ hown w_11 w_12 w_13 e0 (g := (mkF m 1 #[rv th, rv pb, iv ps, iv pe] [(.ref th)])) rfl (by rw [hml]; rfl) rfl (hb hby own_ct3_d1) (by decide) (W := 0) (by show 2 * 0 + _ ≤ _; exact own_b rfl) (by decide)
  refine own_go (B := (T1.setTop (mkF m 4 #[rv th, rv pb, iv ps, iv pe] []))) st1 ?_
  refine own_go (B := (T1.setTop (mkF m 5 #[rv th, rv pb, iv ps, iv pe] [(.ref th)]))) (fun t k => XS.aloadN X1.here hx rfl (hb hby own_ct3_d4) rfl rfl k) ?_
  refine own_go (B := (T1.setTop (mkF m 6 #[rv th, rv pb, iv ps, iv pe] [(.ref pb), (.ref th)]))) (fun t k => XS.aloadN X1.here hx rfl (hb hby own_ct3_d5) rfl rfl k) ?_
  obtain ⟨T2, h2, X2, e2, W2, st2⟩ := putF X1 hx hZ hown (host := "") (Or.inl w_14) Via.refl e1 F9000 E0 (Or.inr ⟨w_15, rfl, hnm⟩) w_3 (ty := (.array .byte)) (by decide) rfl rfl (g := (mkF m 6 #[rv th, rv pb, iv ps, iv pe] [(.ref pb), (.ref th)])) rfl rfl (hb hby own_ct3_d6)
  refine own_go (B := (T2.setTop (mkF m 9 #[rv th, rv pb, iv ps, iv pe] []))) st2 ?_
  obtain ⟨L2, X2, N2⟩ := own_abs X2 (Fr.snoc X2 N0 g0)
  have F3 : n0 ≤ h2.size := by rw [W2.size]; exact Z0
  have F4 := Exa.wr W2 E0
  have F5 := Keep.wr K0 W2 (Or.inl (List.mem_of_getElem? (i := 0) rfl))
  have F6 := Fld.same W2 F9000
  have F7 := Fld.other W2 F9001 (Or.inr (slot_ne (t := .int) (t' := (.array .byte)) (Or.inl w_17) (Or.inr w_15) (by decide) (by decide) (by decide)))
  have F8 := Fld.other W2 F9002 (Or.inr (slot_ne (t := .int) (t' := (.array .byte)) (Or.inr w_19) (Or.inr w_15) (by decide) (by decide) (by decide)))
  refine own_go (B := (T2.setTop (mkF m 10 #[rv th, rv pb, iv ps, iv pe] [(.ref th)]))) (fun t k => XS.aloadN X2.here hx rfl (hb hby own_ct3_d9) rfl rfl k) ?_
  refine own_go (B := (T2.setTop (mkF m 11 #[rv th, rv pb, iv ps, iv pe] [(.int ps), (.ref th)]))) (fun t k => XS.iloadN X2.here hx rfl (hb hby own_ct3_d10) rfl k) ?_
  obtain ⟨T9, h9, X9, e9, W9, st9⟩ := putF X2 hx hZ hown (host := "") (Or.inl w_16) Via.refl e2 F7 F4 (Or.inl w_17) w_3 (ty := .int) (by decide) rfl rfl (g := (mkF m 11 #[rv th, rv pb, iv ps, iv pe] [(.int ps), (.ref th)])) rfl rfl (hb hby own_ct3_d11)
  refine own_go (B := (T9.setTop (mkF m 14 #[rv th, rv pb, iv ps, iv pe] []))) st9 ?_
  obtain ⟨L9, X9, N9⟩ := own_abs X9 (Fr.snoc X9 N2 g0)
  have F10 : n0 ≤ h9.size := by rw [W9.size]; exact F3
  have F11 := Exa.wr W9 F4
  have F12 := Keep.wr F5 W9 (Or.inl (List.mem_of_getElem? (i := 0) rfl))
  have F13 := Fld.other W9 F6 (Or.inr (slot_ne (t := (.array .byte)) (t' := .int) (Or.inr w_15) (Or.inl w_17) (by decide) (by decide) (by decide)))
  have F14 := Fld.same W9 F7
  have F15 := Fld.other W9 F8 (Or.inr (slot_ne (t := .int) (t' := .int) (Or.inr w_19) (Or.inl w_17) (by decide) (by decide) (by decide)))
  refine own_go (B := (T9.setTop (mkF m 15 #[rv th, rv pb, iv ps, iv pe] [(.ref th)]))) (fun t k => XS.aloadN X9.here hx rfl (hb hby own_ct3_d14) rfl rfl k) ?_
  refine own_go (B := (T9.setTop (mkF m 16 #[rv th, rv pb, iv ps, iv pe] [(.int pe), (.ref th)]))) (fun t k => XS.iloadN X9.here hx rfl (hb hby own_ct3_d15) rfl k) ?_
  obtain ⟨T16, h16, X16, e16, W16, st16⟩ := putF X9 hx hZ hown (host := "") (Or.inl w_18) Via.refl e9 F15 F11 (Or.inr ⟨w_19, rfl, hnm⟩) w_3 (ty := .int) (by decide) rfl rfl (g := (mkF m 16 #[rv th, rv pb, iv ps, iv pe] [(.int pe), (.ref th)])) rfl rfl (hb hby own_ct3_d16)
  refine own_go (B := (T16.setTop (mkF m 19 #[rv th, rv pb, iv ps, iv pe] []))) st16 ?_
  obtain ⟨L16, X16, N16⟩ := own_abs X16 (Fr.snoc X16 N9 g0)
  have F17 : n0 ≤ h16.size := by rw [W16.size]; exact F10
  have F18 := Exa.wr W16 F11
  have F19 := Keep.wr F12 W16 (Or.inl (List.mem_of_getElem? (i := 0) rfl))
  have F20 := Fld.other W16 F13 (Or.inr (slot_ne (t := (.array .byte)) (t' := .int) (Or.inr w_15) (Or.inr w_19) (by decide) (by decide) (by decide)))
  have F21 := Fld.other W16 F14 (Or.inr (slot_ne (t := .int) (t' := .int) (Or.inl w_17) (Or.inr w_19) (by decide) (by decide) (by decide)))
  have F22 := Fld.same W16 F15
  exact own_retV X16 hx hlk Bd.returns (hb hby own_ct3_d19) (own_b rfl) (own_b rfl) (Q := (own_ct3_Q Z th pb ps pe h0 n0)) (by rw [e16]; exact ⟨rfl, N16, F19, F18, F20, F21, F22⟩)

theorem own_ct1_d0 : decode prog_1_method_1_code 0 = .ok (.aload_n 0, 1) := by decide +kernel
theorem own_ct1_d1 : decode prog_1_method_1_code 1 = .ok (.aload_n 1, 1) := by decide +kernel
theorem own_ct1_d2 : decode prog_1_method_1_code 2 = .ok (.iconst 0, 1) := by decide +kernel
theorem own_ct1_d3 : decode prog_1_method_1_code 3 = .ok (.aload_n 1, 1) := by decide +kernel
theorem own_ct1_d4 : decode prog_1_method_1_code 4 = .ok (.arraylength, 1) := by decide +kernel
theorem own_ct1_d5 : decode prog_1_method_1_code 5 = .ok (.invokespecial 1, 3) := by decide +kernel
theorem own_ct1_d8 : decode prog_1_method_1_code 8 = .ok (.return_, 1) := by decide +kernel
theorem own_ct1_pn : plainName "com/example/honeybee/honeybee/device/DerReader" = true := by first | (simp [plainName, overriddenIn]; done) | decide +kernel
theorem own_ct1_ef (m : MethodId) (th : Addr) (pb : Addr) : entryFrame m #[(.ref th), (.ref pb)] 2 = mkF m 0 #[rv th, rv pb] [] := by first | (simp [entryFrame, mkF, argsToLocals, Value.category]; done) | rfl
def own_ct1_Q (Z : State) (th : Addr) (pb : Addr) (ln : Int32) (Lb : List Value) (h0 : Heap) (n0 : Nat) (v : Option Value) (h : Heap) (L : List Loc) : Prop := v = none ∧ Fr n0 L ∧ Keep h0 h [th] ∧ Exa Z h th "com/example/honeybee/honeybee/device/DerReader" ∧ Fld Z h th "com/example/honeybee/honeybee/device/DerReader" "bytes" "[B" (.ref pb) ∧ Fld Z h th "com/example/honeybee/honeybee/device/DerReader" "position" "I" (.int (0 : Int32)) ∧ Fld Z h th "com/example/honeybee/honeybee/device/DerReader" "end" "I" (.int ln)
set_option maxRecDepth 65536 in
set_option maxHeartbeats 40000000 in
theorem own_ct1 (l : Launch) (Z : State) (a0 : Array Value) (hw : ∀ d ∈ tables_1, d.before a0 Z = true) (ws : List Jvm.Cond) (th : Addr) (pb : Addr) (ln : Int32) (Lb : List Value) (h0 : Heap) (n0 : Nat) (Z0 : n0 ≤ h0.size) (E0 : Exa Z h0 th "com/example/honeybee/honeybee/device/DerReader") (g0 : n0 ≤ th) (F9000 : Fld Z h0 th "com/example/honeybee/honeybee/device/DerReader" "bytes" "[B" .null) (F9001 : Fld Z h0 th "com/example/honeybee/honeybee/device/DerReader" "position" "I" (.int (0 : Int32))) (F9002 : Fld Z h0 th "com/example/honeybee/honeybee/device/DerReader" "end" "I" (.int (0 : Int32))) (V0 : own_Ar Z h0 pb .byte Lb) (hln : Lb.length.toInt32 = ln) :
    MetFree l own_y16 (head1 (Jvm.Cond.code own_y16 prog_1_method_1_code 2 none :: ws) ({ frames := 2, cells := 0, slots := 0, locals := 27 } : Room)) (fun a U => a = #[(.ref th), (.ref pb)] ∧ Z.Warmed39 U.vm ∧ U.heap = h0) (fun _ _ _ _ _ => True) (fun _ U o U' => ∃ v L, o = .returned v ∧ (own_ct1_Q Z th pb ln Lb h0 n0) v U'.heap L ∧ FrameEnd U o U' L ({ frames := 2, cells := 0, slots := 0, locals := 27 } : Room).cells ({ frames := 2, cells := 0, slots := 0, locals := 27 } : Room).slots) := by
  refine MetFree.of_bodySF (plainFor_of_name own_ct1_pn) hisR ?_
  intro p e s m args below meth c s₁ Bd hml0 hP hK
  obtain ⟨rfl, hZ, hh⟩ := hP
  have hx := Bd.exec
  have hby := Bd.bytes
  have hml : c.maxLocals = 2 := hml0
  have hown : s.vm.findClass "com/example/honeybee/honeybee/device/DerReader" = some m.cls := findClass_of_methodNamed Bd.named
  have hnm := (name_of_methodNamed Bd.named Bd.method).1
  have hlk : meth.locks = false := Bd.notSynchronized
  have X0 : Stand p l e ({ frames := 2, cells := 0, slots := 0, locals := 27 } : Room) s m #[(.ref th), (.ref pb)] below meth c s₁ [] 0 0 := Stand.of_body Bd
  have e0 : s₁.heap = h0 := by rw [← hh, Bd.state]; rfl
  have N0 := Fr.nil n0
  have w_4 := hw _ (List.mem_of_getElem? (l := tables_1) (i := 4) rfl)
  have w_8 := hw _ (List.mem_of_getElem? (l := tables_1) (i := 8) rfl)
  have w_9 := hw _ (List.mem_of_getElem? (l := tables_1) (i := 9) rfl)
  have w_10 := hw _ (List.mem_of_getElem? (l := tables_1) (i := 10) rfl)
  show own_G p.tables e below (fun o U' => ∃ v L, o = .returned v ∧ (own_ct1_Q Z th pb ln Lb h0 n0) v U'.heap L ∧ FrameEnd s o U' L ({ frames := 2, cells := 0, slots := 0, locals := 27 } : Room).cells ({ frames := 2, cells := 0, slots := 0, locals := 27 } : Room).slots) (s₁.setTop (entryFrame m #[(.ref th), (.ref pb)] 2))
  refine own_go (B := s₁.setTop (mkF m 0 #[rv th, rv pb] [])) (fun t k => castTop (own_ct1_ef m th pb) k) ?_
  have K0 := Keep.refl h0 [th]
  refine own_go (B := (s₁.setTop (mkF m 1 #[rv th, rv pb] [(.ref th)]))) (fun t k => XS.aloadN X0.here hx rfl (hb hby own_ct1_d0) rfl rfl k) ?_
  refine own_go (B := (s₁.setTop (mkF m 2 #[rv th, rv pb] [(.ref pb), (.ref th)]))) (fun t k => XS.aloadN X0.here hx rfl (hb hby own_ct1_d1) rfl rfl k) ?_
  refine own_go (B := (s₁.setTop (mkF m 3 #[rv th, rv pb] [(.int (0 : Int32)), (.ref pb), (.ref th)]))) (fun t k => own_iconst (v := (0 : Int32)) X0.here hx rfl (hb hby own_ct1_d2) (by decide) k) ?_
  refine own_go (B := (s₁.setTop (mkF m 4 #[rv th, rv pb] [(.ref pb), (.int (0 : Int32)), (.ref pb), (.ref th)]))) (fun t k => XS.aloadN X0.here hx rfl (hb hby own_ct1_d3) rfl rfl k) ?_
  refine own_go (B := (s₁.setTop (mkF m 5 #[rv th, rv pb] [(.int ln), (.int (0 : Int32)), (.ref pb), (.ref th)]))) (own_alen X0 hx hZ e0 V0 (n := ln) hln (g := (mkF m 4 #[rv th, rv pb] [(.ref pb), (.int (0 : Int32)), (.ref pb), (.ref th)])) rfl rfl (hb hby own_ct1_d4)) ?_
  obtain ⟨_, _, ⟨T1, L1, k1, n1⟩, -, X1, ⟨Lc1, hQ1, l1, yy1, zz1⟩, st1⟩ := X0.specialBack hx (y := own_y1) rfl hown (mvT hZ w_8) (mvT hZ w_9) (mvT hZ w_10) (by decide) (backOf (W := 0) (own_ct3 l Z a0 hw [] th pb (0 : Int32) ln h0 n0 Z0 E0 g0 F9000 F9001 F9002) hZ w_10 w_4 (by decide) (by decide)) (g := (mkF m 5 #[rv th, rv pb] [(.int ln), (.int (0 : Int32)), (.ref pb), (.ref th)])) rfl (by rw [hml]; rfl) (Steps.refl _) (a := th) (argsL := [(.ref pb), (.int (0 : Int32)), (.int ln)]) (rest := []) (lenOf own_pd1 rfl) rfl (by show 2 * 0 + _ ≤ _; exact own_b rfl) (hb hby own_ct1_d5) (fun _ _ => ⟨rfl, e0, (own_b rfl : 0 + 0 ≤ _), (own_b rfl : 0 + 0 ≤ _)⟩)
  dsimp only [Pt.U, Pt.locs, Pt.cells, Pt.slots] at X1 l1 yy1 zz1 st1 hQ1
  obtain ⟨rfl, Nq1, K1, Ex1, g0_1, g1_1, g2_1⟩ := hQ1
  obtain ⟨L1, X1, N1⟩ := own_absC (K := 0) (K' := 0) X1 l1 yy1 zz1 N0 Nq1
  have F2 : n0 ≤ T1.heap.size := Nat.le_trans Z0 K1.1
  have F3 := Exa.keep E0 K1
  have F4 := Keep.trans K0 K1 (allS (Or.inl (List.mem_of_getElem? (i := 0) rfl)) all0)
  refine own_tr (B := (T1.setTop (mkF m 8 #[rv th, rv pb] []))) st1 ?_
  exact own_retV X1 hx hlk Bd.returns (hb hby own_ct1_d8) (own_b rfl) (own_b rfl) (Q := (own_ct1_Q Z th pb ln Lb h0 n0)) ⟨rfl, N1, F4, Ex1, g0_1, g1_1, g2_1⟩

theorem own_hd_d0 : decode prog_1_method_9_code 0 = .ok (.aload_n 0, 1) := by decide +kernel
theorem own_hd_d1 : decode prog_1_method_9_code 1 = .ok (.getfield 20, 3) := by decide +kernel
theorem own_hd_d4 : decode prog_1_method_9_code 4 = .ok (.aload_n 0, 1) := by decide +kernel
theorem own_hd_d5 : decode prog_1_method_9_code 5 = .ok (.getfield 16, 3) := by decide +kernel
theorem own_hd_d8 : decode prog_1_method_9_code 8 = .ok (.isub, 1) := by decide +kernel
theorem own_hd_d9 : decode prog_1_method_9_code 9 = .ok (.iconst 2, 1) := by decide +kernel
theorem own_hd_d10 : decode prog_1_method_9_code 10 = .ok (.if_icmp .lt 20, 3) := by decide +kernel
theorem own_hd_d13 : decode prog_1_method_9_code 13 = .ok (.aload_n 0, 1) := by decide +kernel
theorem own_hd_d14 : decode prog_1_method_9_code 14 = .ok (.getfield 12, 3) := by decide +kernel
theorem own_hd_d17 : decode prog_1_method_9_code 17 = .ok (.aload_n 0, 1) := by decide +kernel
theorem own_hd_d18 : decode prog_1_method_9_code 18 = .ok (.getfield 16, 3) := by decide +kernel
theorem own_hd_d21 : decode prog_1_method_9_code 21 = .ok (.baload, 1) := by decide +kernel
theorem own_hd_d22 : decode prog_1_method_9_code 22 = .ok (.sipush 255, 3) := by decide +kernel
theorem own_hd_d25 : decode prog_1_method_9_code 25 = .ok (.iand, 1) := by decide +kernel
theorem own_hd_d26 : decode prog_1_method_9_code 26 = .ok (.iload_n 1, 1) := by decide +kernel
theorem own_hd_d27 : decode prog_1_method_9_code 27 = .ok (.if_icmp .eq 17, 3) := by decide +kernel
theorem own_hd_d44 : decode prog_1_method_9_code 44 = .ok (.aload_n 0, 1) := by decide +kernel
theorem own_hd_d45 : decode prog_1_method_9_code 45 = .ok (.getfield 12, 3) := by decide +kernel
theorem own_hd_d48 : decode prog_1_method_9_code 48 = .ok (.aload_n 0, 1) := by decide +kernel
theorem own_hd_d49 : decode prog_1_method_9_code 49 = .ok (.getfield 16, 3) := by decide +kernel
theorem own_hd_d52 : decode prog_1_method_9_code 52 = .ok (.iconst 1, 1) := by decide +kernel
theorem own_hd_d53 : decode prog_1_method_9_code 53 = .ok (.iadd, 1) := by decide +kernel
theorem own_hd_d54 : decode prog_1_method_9_code 54 = .ok (.baload, 1) := by decide +kernel
theorem own_hd_d55 : decode prog_1_method_9_code 55 = .ok (.sipush 255, 3) := by decide +kernel
theorem own_hd_d58 : decode prog_1_method_9_code 58 = .ok (.iand, 1) := by decide +kernel
theorem own_hd_d59 : decode prog_1_method_9_code 59 = .ok (.istore_n 3, 1) := by decide +kernel
theorem own_hd_d60 : decode prog_1_method_9_code 60 = .ok (.aload_n 0, 1) := by decide +kernel
theorem own_hd_d61 : decode prog_1_method_9_code 61 = .ok (.dup, 1) := by decide +kernel
theorem own_hd_d62 : decode prog_1_method_9_code 62 = .ok (.getfield 16, 3) := by decide +kernel
theorem own_hd_d65 : decode prog_1_method_9_code 65 = .ok (.iconst 2, 1) := by decide +kernel
theorem own_hd_d66 : decode prog_1_method_9_code 66 = .ok (.iadd, 1) := by decide +kernel
theorem own_hd_d67 : decode prog_1_method_9_code 67 = .ok (.putfield 16, 3) := by decide +kernel
theorem own_hd_d70 : decode prog_1_method_9_code 70 = .ok (.iload_n 3, 1) := by decide +kernel
theorem own_hd_d71 : decode prog_1_method_9_code 71 = .ok (.sipush 128, 3) := by decide +kernel
theorem own_hd_d74 : decode prog_1_method_9_code 74 = .ok (.if_icmp .ge 9, 3) := by decide +kernel
theorem own_hd_d77 : decode prog_1_method_9_code 77 = .ok (.iload_n 3, 1) := by decide +kernel
theorem own_hd_d78 : decode prog_1_method_9_code 78 = .ok (.istore 4, 2) := by decide +kernel
theorem own_hd_d80 : decode prog_1_method_9_code 80 = .ok (.goto 149, 3) := by decide +kernel
theorem own_hd_d229 : decode prog_1_method_9_code 229 = .ok (.iload 4, 2) := by decide +kernel
theorem own_hd_d231 : decode prog_1_method_9_code 231 = .ok (.aload_n 0, 1) := by decide +kernel
theorem own_hd_d232 : decode prog_1_method_9_code 232 = .ok (.getfield 20, 3) := by decide +kernel
theorem own_hd_d235 : decode prog_1_method_9_code 235 = .ok (.aload_n 0, 1) := by decide +kernel
theorem own_hd_d236 : decode prog_1_method_9_code 236 = .ok (.getfield 16, 3) := by decide +kernel
theorem own_hd_d239 : decode prog_1_method_9_code 239 = .ok (.isub, 1) := by decide +kernel
theorem own_hd_d240 : decode prog_1_method_9_code 240 = .ok (.if_icmp .le 17, 3) := by decide +kernel
theorem own_hd_d257 : decode prog_1_method_9_code 257 = .ok (.iload 4, 2) := by decide +kernel
theorem own_hd_d259 : decode prog_1_method_9_code 259 = .ok (.ireturn, 1) := by decide +kernel
theorem own_hd_pn : plainName "com/example/honeybee/honeybee/device/DerReader" = true := by first | (simp [plainName, overriddenIn]; done) | decide +kernel
theorem own_hd_ef (m : MethodId) (th : Addr) (tg : Int32) (nm : Addr) : entryFrame m #[(.ref th), (.int tg), (.ref nm)] 9 = mkF m 0 #[rv th, iv tg, rv nm, .unset, .unset, .unset, .unset, .unset, .unset] [] := by first | (simp [entryFrame, mkF, argsToLocals, Value.category]; done) | rfl
def own_hd_Q (Z : State) (th : Addr) (tg : Int32) (nm : Addr) (ba : Addr) (po en p2 b0 b1 ln : Int32) (Lb : List Value) (h0 : Heap) (n0 : Nat) (v : Option Value) (h : Heap) (L : List Loc) : Prop := v = some (.int ln) ∧ Fr n0 L ∧ Keep h0 h [th] ∧ Exa Z h th "com/example/honeybee/honeybee/device/DerReader" ∧ Fld Z h th "com/example/honeybee/honeybee/device/DerReader" "bytes" "[B" (.ref ba) ∧ Fld Z h th "com/example/honeybee/honeybee/device/DerReader" "position" "I" (.int p2) ∧ Fld Z h th "com/example/honeybee/honeybee/device/DerReader" "end" "I" (.int en)
set_option maxRecDepth 65536 in
set_option maxHeartbeats 40000000 in
theorem own_hd (l : Launch) (Z : State) (a0 : Array Value) (hw : ∀ d ∈ tables_1, d.before a0 Z = true) (ws : List Jvm.Cond) (th : Addr) (tg : Int32) (nm : Addr) (ba : Addr) (po en p2 b0 b1 ln : Int32) (Lb : List Value) (h0 : Heap) (n0 : Nat) (Z0 : n0 ≤ h0.size) (E0 : Exa Z h0 th "com/example/honeybee/honeybee/device/DerReader") (g0 : n0 ≤ th) (F9000 : Fld Z h0 th "com/example/honeybee/honeybee/device/DerReader" "bytes" "[B" (.ref ba)) (F9001 : Fld Z h0 th "com/example/honeybee/honeybee/device/DerReader" "position" "I" (.int po)) (F9002 : Fld Z h0 th "com/example/honeybee/honeybee/device/DerReader" "end" "I" (.int en)) (V0 : own_Ar Z h0 ba .byte Lb) (q0 : ¬ po < 0) (q0b : ¬ (po + (1 : Int32)) < 0) (q1 : ¬ (en - po) < (2 : Int32)) (hv1 : Lb[po.toNatClampNeg]? = some (.int b0)) (q2 : (b0 &&& (255 : Int32)) = tg) (hv2 : Lb[(po + (1 : Int32)).toNatClampNeg]? = some (.int b1)) (q3 : (b1 &&& (255 : Int32)) = ln) (q4 : ln < (128 : Int32)) (hp2 : po + (2 : Int32) = p2) (q5 : ¬ (en - p2) < ln) :
    MetFree l own_y2 (head1 (Jvm.Cond.code own_y2 prog_1_method_9_code 9 (some .int) :: ws) ({ frames := 0, cells := 0, slots := 0, locals := 0 } : Room)) (fun a U => a = #[(.ref th), (.int tg), (.ref nm)] ∧ Z.Warmed39 U.vm ∧ U.heap = h0) (fun _ _ _ _ _ => True) (fun _ U o U' => ∃ v L, o = .returned v ∧ (own_hd_Q Z th tg nm ba po en p2 b0 b1 ln Lb h0 n0) v U'.heap L ∧ FrameEnd U o U' L ({ frames := 0, cells := 0, slots := 0, locals := 0 } : Room).cells ({ frames := 0, cells := 0, slots := 0, locals := 0 } : Room).slots) := by
  refine MetFree.of_bodySF (plainFor_of_name own_hd_pn) hisR ?_
  intro p e s m args below meth c s₁ Bd hml0 hP hK
  obtain ⟨rfl, hZ, hh⟩ := hP
  have hx := Bd.exec
  have hby := Bd.bytes
  have hml : c.maxLocals = 9 := hml0
  have hown : s.vm.findClass "com/example/honeybee/honeybee/device/DerReader" = some m.cls := findClass_of_methodNamed Bd.named
  have hnm := (name_of_methodNamed Bd.named Bd.method).1
  have hlk : meth.locks = false := Bd.notSynchronized
  have X0 : Stand p l e ({ frames := 0, cells := 0, slots := 0, locals := 0 } : Room) s m #[(.ref th), (.int tg), (.ref nm)] below meth c s₁ [] 0 0 := Stand.of_body Bd
  have e0 : s₁.heap = h0 := by rw [← hh, Bd.state]; rfl
  have N0 := Fr.nil n0
  have w_3 := hw _ (List.mem_of_getElem? (l := tables_1) (i := 3) rfl)
  have w_14 := hw _ (List.mem_of_getElem? (l := tables_1) (i := 14) rfl)
  have w_15 := hw _ (List.mem_of_getElem? (l := tables_1) (i := 15) rfl)
  have w_16 := hw _ (List.mem_of_getElem? (l := tables_1) (i := 16) rfl)
  have w_17 := hw _ (List.mem_of_getElem? (l := tables_1) (i := 17) rfl)
  have w_18 := hw _ (List.mem_of_getElem? (l := tables_1) (i := 18) rfl)
  have w_19 := hw _ (List.mem_of_getElem? (l := tables_1) (i := 19) rfl)
  show own_G p.tables e below (fun o U' => ∃ v L, o = .returned v ∧ (own_hd_Q Z th tg nm ba po en p2 b0 b1 ln Lb h0 n0) v U'.heap L ∧ FrameEnd s o U' L ({ frames := 0, cells := 0, slots := 0, locals := 0 } : Room).cells ({ frames := 0, cells := 0, slots := 0, locals := 0 } : Room).slots) (s₁.setTop (entryFrame m #[(.ref th), (.int tg), (.ref nm)] 9))
  refine own_go (B := s₁.setTop (mkF m 0 #[rv th, iv tg, rv nm, .unset, .unset, .unset, .unset, .unset, .unset] [])) (fun t k => castTop (own_hd_ef m th tg nm) k) ?_
  have K0 := Keep.refl h0 [th]
  have nba := own_Ar_ne E0 w_3 V0
  refine own_go (B := (s₁.setTop (mkF m 1 #[rv th, iv tg, rv nm, .unset, .unset, .unset, .unset, .unset, .unset] [(.ref th)]))) (fun t k => XS.aloadN X0.here hx rfl (hb hby own_hd_d0) rfl rfl k) ?_
  obtain ⟨T1, X1, e1, st1⟩ := getF X0 hx hZ hown (host := "") (Or.inl w_18) Via.refl e0 F9002 (g := (mkF m 1 #[rv th, iv tg, rv nm, .unset, .unset, .unset, .unset, .unset, .unset] [(.ref th)])) rfl rfl (hb hby own_hd_d1)
  refine own_go (B := (T1.setTop (mkF m 4 #[rv th, iv tg, rv nm, .unset, .unset, .unset, .unset, .unset, .unset] [(.int en)]))) st1 ?_
  refine own_go (B := (T1.setTop (mkF m 5 #[rv th, iv tg, rv nm, .unset, .unset, .unset, .unset, .unset, .unset] [(.ref th), (.int en)]))) (fun t k => XS.aloadN X1.here hx rfl (hb hby own_hd_d4) rfl rfl k) ?_
  obtain ⟨T2, X2, e2, st2⟩ := getF X1 hx hZ hown (host := "") (Or.inl w_16) Via.refl e1 F9001 (g := (mkF m 5 #[rv th, iv tg, rv nm, .unset, .unset, .unset, .unset, .unset, .unset] [(.ref th), (.int en)])) rfl rfl (hb hby own_hd_d5)
  refine own_go (B := (T2.setTop (mkF m 8 #[rv th, iv tg, rv nm, .unset, .unset, .unset, .unset, .unset, .unset] [(.int po), (.int en)]))) st2 ?_
  refine own_go (B := (T2.setTop (mkF m 9 #[rv th, iv tg, rv nm, .unset, .unset, .unset, .unset, .unset, .unset] [(.int (en - po))]))) (fun t k => XS.isub (x := en) (y := po) X2.here hx rfl (hb hby own_hd_d8) rfl k) ?_
  refine own_go (B := (T2.setTop (mkF m 10 #[rv th, iv tg, rv nm, .unset, .unset, .unset, .unset, .unset, .unset] [(.int (2 : Int32)), (.int (en - po))]))) (fun t k => own_iconst (v := (2 : Int32)) X2.here hx rfl (hb hby own_hd_d9) (by decide) k) ?_
  have hc10 : ¬ (en - po) < (2 : Int32) := q1
  refine own_icmpN X2 hx (hb hby own_hd_d10) (pn := 13) rfl hc10 ?_
  refine own_go (B := (T2.setTop (mkF m 14 #[rv th, iv tg, rv nm, .unset, .unset, .unset, .unset, .unset, .unset] [(.ref th)]))) (fun t k => XS.aloadN X2.here hx rfl (hb hby own_hd_d13) rfl rfl k) ?_
  obtain ⟨T3, X3, e3, st3⟩ := getF X2 hx hZ hown (host := "") (Or.inl w_14) Via.refl e2 F9000 (g := (mkF m 14 #[rv th, iv tg, rv nm, .unset, .unset, .unset, .unset, .unset, .unset] [(.ref th)])) rfl rfl (hb hby own_hd_d14)
  refine own_go (B := (T3.setTop (mkF m 17 #[rv th, iv tg, rv nm, .unset, .unset, .unset, .unset, .unset, .unset] [(.ref ba)]))) st3 ?_
  refine own_go (B := (T3.setTop (mkF m 18 #[rv th, iv tg, rv nm, .unset, .unset, .unset, .unset, .unset, .unset] [(.ref th), (.ref ba)]))) (fun t k => XS.aloadN X3.here hx rfl (hb hby own_hd_d17) rfl rfl k) ?_
  obtain ⟨T4, X4, e4, st4⟩ := getF X3 hx hZ hown (host := "") (Or.inl w_16) Via.refl e3 F9001 (g := (mkF m 18 #[rv th, iv tg, rv nm, .unset, .unset, .unset, .unset, .unset, .unset] [(.ref th), (.ref ba)])) rfl rfl (hb hby own_hd_d18)
  refine own_go (B := (T4.setTop (mkF m 21 #[rv th, iv tg, rv nm, .unset, .unset, .unset, .unset, .unset, .unset] [(.int po), (.ref ba)]))) st4 ?_
  refine own_go (B := (T4.setTop (mkF m 22 #[rv th, iv tg, rv nm, .unset, .unset, .unset, .unset, .unset, .unset] [(.int b0)]))) (own_ldB X4 hx hZ e4 V0 (v := (.int b0)) q0 hv1 (g := (mkF m 21 #[rv th, iv tg, rv nm, .unset, .unset, .unset, .unset, .unset, .unset] [(.int po), (.ref ba)])) rfl rfl (hb hby own_hd_d21)) ?_
  refine own_go (B := (T4.setTop (mkF m 25 #[rv th, iv tg, rv nm, .unset, .unset, .unset, .unset, .unset, .unset] [(.int (255 : Int32)), (.int b0)]))) (fun t k => own_sipush (v := (255 : Int32)) X4.here hx rfl (hb hby own_hd_d22) (by decide) k) ?_
  refine own_go (B := (T4.setTop (mkF m 26 #[rv th, iv tg, rv nm, .unset, .unset, .unset, .unset, .unset, .unset] [(.int (b0 &&& (255 : Int32)))]))) (fun t k => XS.iand (x := b0) (y := (255 : Int32)) X4.here hx rfl (hb hby own_hd_d25) rfl k) ?_
  refine own_go (B := (T4.setTop (mkF m 27 #[rv th, iv tg, rv nm, .unset, .unset, .unset, .unset, .unset, .unset] [(.int tg), (.int (b0 &&& (255 : Int32)))]))) (fun t k => XS.iloadN X4.here hx rfl (hb hby own_hd_d26) rfl k) ?_
  have hc27 : (b0 &&& (255 : Int32)) = tg := q2
  refine own_icmpY X4 hx (hb hby own_hd_d27) (pc' := 44) (by decide) (by decide) hc27 ?_
  refine own_go (B := (T4.setTop (mkF m 45 #[rv th, iv tg, rv nm, .unset, .unset, .unset, .unset, .unset, .unset] [(.ref th)]))) (fun t k => XS.aloadN X4.here hx rfl (hb hby own_hd_d44) rfl rfl k) ?_
  obtain ⟨T5, X5, e5, st5⟩ := getF X4 hx hZ hown (host := "") (Or.inl w_14) Via.refl e4 F9000 (g := (mkF m 45 #[rv th, iv tg, rv nm, .unset, .unset, .unset, .unset, .unset, .unset] [(.ref th)])) rfl rfl (hb hby own_hd_d45)
  refine own_go (B := (T5.setTop (mkF m 48 #[rv th, iv tg, rv nm, .unset, .unset, .unset, .unset, .unset, .unset] [(.ref ba)]))) st5 ?_
  refine own_go (B := (T5.setTop (mkF m 49 #[rv th, iv tg, rv nm, .unset, .unset, .unset, .unset, .unset, .unset] [(.ref th), (.ref ba)]))) (fun t k => XS.aloadN X5.here hx rfl (hb hby own_hd_d48) rfl rfl k) ?_
  obtain ⟨T6, X6, e6, st6⟩ := getF X5 hx hZ hown (host := "") (Or.inl w_16) Via.refl e5 F9001 (g := (mkF m 49 #[rv th, iv tg, rv nm, .unset, .unset, .unset, .unset, .unset, .unset] [(.ref th), (.ref ba)])) rfl rfl (hb hby own_hd_d49)
  refine own_go (B := (T6.setTop (mkF m 52 #[rv th, iv tg, rv nm, .unset, .unset, .unset, .unset, .unset, .unset] [(.int po), (.ref ba)]))) st6 ?_
  refine own_go (B := (T6.setTop (mkF m 53 #[rv th, iv tg, rv nm, .unset, .unset, .unset, .unset, .unset, .unset] [(.int (1 : Int32)), (.int po), (.ref ba)]))) (fun t k => own_iconst (v := (1 : Int32)) X6.here hx rfl (hb hby own_hd_d52) (by decide) k) ?_
  refine own_go (B := (T6.setTop (mkF m 54 #[rv th, iv tg, rv nm, .unset, .unset, .unset, .unset, .unset, .unset] [(.int (po + (1 : Int32))), (.ref ba)]))) (fun t k => XS.iadd (x := po) (y := (1 : Int32)) X6.here hx rfl (hb hby own_hd_d53) rfl k) ?_
  refine own_go (B := (T6.setTop (mkF m 55 #[rv th, iv tg, rv nm, .unset, .unset, .unset, .unset, .unset, .unset] [(.int b1)]))) (own_ldB X6 hx hZ e6 V0 (v := (.int b1)) q0b hv2 (g := (mkF m 54 #[rv th, iv tg, rv nm, .unset, .unset, .unset, .unset, .unset, .unset] [(.int (po + (1 : Int32))), (.ref ba)])) rfl rfl (hb hby own_hd_d54)) ?_
  refine own_go (B := (T6.setTop (mkF m 58 #[rv th, iv tg, rv nm, .unset, .unset, .unset, .unset, .unset, .unset] [(.int (255 : Int32)), (.int b1)]))) (fun t k => own_sipush (v := (255 : Int32)) X6.here hx rfl (hb hby own_hd_d55) (by decide) k) ?_
  refine own_go (B := (T6.setTop (mkF m 59 #[rv th, iv tg, rv nm, .unset, .unset, .unset, .unset, .unset, .unset] [(.int (b1 &&& (255 : Int32)))]))) (fun t k => XS.iand (x := b1) (y := (255 : Int32)) X6.here hx rfl (hb hby own_hd_d58) rfl k) ?_
  rw [q3]
  refine own_go (B := (T6.setTop (mkF m 60 #[rv th, iv tg, rv nm, iv ln, .unset, .unset, .unset, .unset, .unset] []))) (fun t k => XS.istoreN X6.here hx rfl (hb hby own_hd_d59) rfl (l' := #[rv th, iv tg, rv nm, iv ln, .unset, .unset, .unset, .unset, .unset]) rfl k) ?_
  refine own_go (B := (T6.setTop (mkF m 61 #[rv th, iv tg, rv nm, iv ln, .unset, .unset, .unset, .unset, .unset] [(.ref th)]))) (fun t k => XS.aloadN X6.here hx rfl (hb hby own_hd_d60) rfl rfl k) ?_
  refine own_go (B := (T6.setTop (mkF m 62 #[rv th, iv tg, rv nm, iv ln, .unset, .unset, .unset, .unset, .unset] [(.ref th), (.ref th)]))) (fun t k => XS.dup X6.here hx rfl (hb hby own_hd_d61) rfl rfl k) ?_
  obtain ⟨T7, X7, e7, st7⟩ := getF X6 hx hZ hown (host := "") (Or.inl w_16) Via.refl e6 F9001 (g := (mkF m 62 #[rv th, iv tg, rv nm, iv ln, .unset, .unset, .unset, .unset, .unset] [(.ref th), (.ref th)])) rfl rfl (hb hby own_hd_d62)
  refine own_go (B := (T7.setTop (mkF m 65 #[rv th, iv tg, rv nm, iv ln, .unset, .unset, .unset, .unset, .unset] [(.int po), (.ref th)]))) st7 ?_
  refine own_go (B := (T7.setTop (mkF m 66 #[rv th, iv tg, rv nm, iv ln, .unset, .unset, .unset, .unset, .unset] [(.int (2 : Int32)), (.int po), (.ref th)]))) (fun t k => own_iconst (v := (2 : Int32)) X7.here hx rfl (hb hby own_hd_d65) (by decide) k) ?_
  refine own_go (B := (T7.setTop (mkF m 67 #[rv th, iv tg, rv nm, iv ln, .unset, .unset, .unset, .unset, .unset] [(.int (po + (2 : Int32))), (.ref th)]))) (fun t k => XS.iadd (x := po) (y := (2 : Int32)) X7.here hx rfl (hb hby own_hd_d66) rfl k) ?_
  rw [hp2]
  obtain ⟨T8, h8, X8, e8, W8, st8⟩ := putF X7 hx hZ hown (host := "") (Or.inl w_16) Via.refl e7 F9001 E0 (Or.inl w_17) w_3 (ty := .int) (by decide) rfl rfl (g := (mkF m 67 #[rv th, iv tg, rv nm, iv ln, .unset, .unset, .unset, .unset, .unset] [(.int p2), (.ref th)])) rfl rfl (hb hby own_hd_d67)
  refine own_go (B := (T8.setTop (mkF m 70 #[rv th, iv tg, rv nm, iv ln, .unset, .unset, .unset, .unset, .unset] []))) st8 ?_
  obtain ⟨L8, X8, N8⟩ := own_abs X8 (Fr.snoc X8 N0 g0)
  have F9 : n0 ≤ h8.size := by rw [W8.size]; exact Z0
  have F10 := Exa.wr W8 E0
  have F11 := Keep.wr K0 W8 (Or.inl (List.mem_of_getElem? (i := 0) rfl))
  have F12 := Fld.other W8 F9000 (Or.inr (slot_ne (t := (.array .byte)) (t' := .int) (Or.inr w_15) (Or.inl w_17) (by decide) (by decide) (by decide)))
  have F13 := Fld.same W8 F9001
  have F14 := Fld.other W8 F9002 (Or.inr (slot_ne (t := .int) (t' := .int) (Or.inr w_19) (Or.inl w_17) (by decide) (by decide) (by decide)))
  have F15 := own_Ar_other V0 W8 (Ne.symm nba)
  refine own_go (B := (T8.setTop (mkF m 71 #[rv th, iv tg, rv nm, iv ln, .unset, .unset, .unset, .unset, .unset] [(.int ln)]))) (fun t k => XS.iloadN X8.here hx rfl (hb hby own_hd_d70) rfl k) ?_
  refine own_go (B := (T8.setTop (mkF m 74 #[rv th, iv tg, rv nm, iv ln, .unset, .unset, .unset, .unset, .unset] [(.int (128 : Int32)), (.int ln)]))) (fun t k => own_sipush (v := (128 : Int32)) X8.here hx rfl (hb hby own_hd_d71) (by decide) k) ?_
  have hc74 : ln < (128 : Int32) := q4
  refine own_icmpN X8 hx (hb hby own_hd_d74) (pn := 77) rfl hc74 ?_
  refine own_go (B := (T8.setTop (mkF m 78 #[rv th, iv tg, rv nm, iv ln, .unset, .unset, .unset, .unset, .unset] [(.int ln)]))) (fun t k => XS.iloadN X8.here hx rfl (hb hby own_hd_d77) rfl k) ?_
  refine own_go (B := (T8.setTop (mkF m 80 #[rv th, iv tg, rv nm, iv ln, iv ln, .unset, .unset, .unset, .unset] []))) (fun t k => XS.istore X8.here hx rfl (hb hby own_hd_d78) rfl (l' := #[rv th, iv tg, rv nm, iv ln, iv ln, .unset, .unset, .unset, .unset]) rfl k) ?_
  refine own_go (B := (T8.setTop (mkF m 229 #[rv th, iv tg, rv nm, iv ln, iv ln, .unset, .unset, .unset, .unset] []))) (fun t k => XS.goto X8.here hx rfl (pc0 := 80) (pc' := 229) rfl (hb hby own_hd_d80) (by decide) (by decide) k) ?_
  refine own_go (B := (T8.setTop (mkF m 231 #[rv th, iv tg, rv nm, iv ln, iv ln, .unset, .unset, .unset, .unset] [(.int ln)]))) (fun t k => XS.iload X8.here hx rfl (hb hby own_hd_d229) rfl k) ?_
  refine own_go (B := (T8.setTop (mkF m 232 #[rv th, iv tg, rv nm, iv ln, iv ln, .unset, .unset, .unset, .unset] [(.ref th), (.int ln)]))) (fun t k => XS.aloadN X8.here hx rfl (hb hby own_hd_d231) rfl rfl k) ?_
  obtain ⟨T16, X16, e16, st16⟩ := getF X8 hx hZ hown (host := "") (Or.inl w_18) Via.refl e8 F14 (g := (mkF m 232 #[rv th, iv tg, rv nm, iv ln, iv ln, .unset, .unset, .unset, .unset] [(.ref th), (.int ln)])) rfl rfl (hb hby own_hd_d232)
  refine own_go (B := (T16.setTop (mkF m 235 #[rv th, iv tg, rv nm, iv ln, iv ln, .unset, .unset, .unset, .unset] [(.int en), (.int ln)]))) st16 ?_
  refine own_go (B := (T16.setTop (mkF m 236 #[rv th, iv tg, rv nm, iv ln, iv ln, .unset, .unset, .unset, .unset] [(.ref th), (.int en), (.int ln)]))) (fun t k => XS.aloadN X16.here hx rfl (hb hby own_hd_d235) rfl rfl k) ?_
  obtain ⟨T17, X17, e17, st17⟩ := getF X16 hx hZ hown (host := "") (Or.inl w_16) Via.refl e16 F13 (g := (mkF m 236 #[rv th, iv tg, rv nm, iv ln, iv ln, .unset, .unset, .unset, .unset] [(.ref th), (.int en), (.int ln)])) rfl rfl (hb hby own_hd_d236)
  refine own_go (B := (T17.setTop (mkF m 239 #[rv th, iv tg, rv nm, iv ln, iv ln, .unset, .unset, .unset, .unset] [(.int p2), (.int en), (.int ln)]))) st17 ?_
  refine own_go (B := (T17.setTop (mkF m 240 #[rv th, iv tg, rv nm, iv ln, iv ln, .unset, .unset, .unset, .unset] [(.int (en - p2)), (.int ln)]))) (fun t k => XS.isub (x := en) (y := p2) X17.here hx rfl (hb hby own_hd_d239) rfl k) ?_
  have hc240 : ¬ (en - p2) < ln := q5
  refine own_icmpY X17 hx (hb hby own_hd_d240) (pc' := 257) (by decide) (by decide) hc240 ?_
  refine own_go (B := (T17.setTop (mkF m 259 #[rv th, iv tg, rv nm, iv ln, iv ln, .unset, .unset, .unset, .unset] [(.int ln)]))) (fun t k => XS.iload X17.here hx rfl (hb hby own_hd_d257) rfl k) ?_
  exact own_retI X17 hx hlk Bd.returns (hb hby own_hd_d259) (own_b rfl) (own_b rfl) (Q := (own_hd_Q Z th tg nm ba po en p2 b0 b1 ln Lb h0 n0)) (by rw [e17]; exact ⟨rfl, N8, F11, F10, F12, F13, F14⟩)

theorem own_nv_d0 : decode prog_1_method_7_code 0 = .ok (.aload_n 0, 1) := by decide +kernel
theorem own_nv_d1 : decode prog_1_method_7_code 1 = .ok (.iconst 5, 1) := by decide +kernel
theorem own_nv_d2 : decode prog_1_method_7_code 2 = .ok (.ldc 57, 2) := by decide +kernel
theorem own_nv_d4 : decode prog_1_method_7_code 4 = .ok (.invokevirtual 25, 3) := by decide +kernel
theorem own_nv_d7 : decode prog_1_method_7_code 7 = .ok (.ifCond .eq 13, 3) := by decide +kernel
theorem own_nv_d20 : decode prog_1_method_7_code 20 = .ok (.return_, 1) := by decide +kernel
theorem own_nv_pn : plainName "com/example/honeybee/honeybee/device/DerReader" = true := by first | (simp [plainName, overriddenIn]; done) | decide +kernel
theorem own_nv_ef (m : MethodId) (th : Addr) : entryFrame m #[(.ref th)] 1 = mkF m 0 #[rv th] [] := by first | (simp [entryFrame, mkF, argsToLocals, Value.category]; done) | rfl
def own_nv_Q (Z : State) (th : Addr) (ba : Addr) (po en p2 b0 b1 : Int32) (Lb : List Value) (h0 : Heap) (n0 : Nat) (v : Option Value) (h : Heap) (L : List Loc) : Prop := v = none ∧ Fr n0 L ∧ Keep h0 h [th] ∧ Exa Z h th "com/example/honeybee/honeybee/device/DerReader" ∧ Fld Z h th "com/example/honeybee/honeybee/device/DerReader" "bytes" "[B" (.ref ba) ∧ Fld Z h th "com/example/honeybee/honeybee/device/DerReader" "position" "I" (.int p2) ∧ Fld Z h th "com/example/honeybee/honeybee/device/DerReader" "end" "I" (.int en)
set_option maxRecDepth 65536 in
set_option maxHeartbeats 40000000 in
theorem own_nv (l : Launch) (Z : State) (a0 : Array Value) (hw : ∀ d ∈ tables_1, d.before a0 Z = true) (ws : List Jvm.Cond) (th : Addr) (ba : Addr) (po en p2 b0 b1 : Int32) (Lb : List Value) (h0 : Heap) (n0 : Nat) (Z0 : n0 ≤ h0.size) (E0 : Exa Z h0 th "com/example/honeybee/honeybee/device/DerReader") (g0 : n0 ≤ th) (F9000 : Fld Z h0 th "com/example/honeybee/honeybee/device/DerReader" "bytes" "[B" (.ref ba)) (F9001 : Fld Z h0 th "com/example/honeybee/honeybee/device/DerReader" "position" "I" (.int po)) (F9002 : Fld Z h0 th "com/example/honeybee/honeybee/device/DerReader" "end" "I" (.int en)) (V0 : own_Ar Z h0 ba .byte Lb) (q0 : ¬ po < 0) (q0b : ¬ (po + (1 : Int32)) < 0) (q1 : ¬ (en - po) < (2 : Int32)) (hv1 : Lb[po.toNatClampNeg]? = some (.int b0)) (q2 : (b0 &&& (255 : Int32)) = (5 : Int32)) (hv2 : Lb[(po + (1 : Int32)).toNatClampNeg]? = some (.int b1)) (q3 : (b1 &&& (255 : Int32)) = (0 : Int32)) (q4 : (0 : Int32) < (128 : Int32)) (hp2 : po + (2 : Int32) = p2) (q5 : ¬ (en - p2) < (0 : Int32)) :
    MetFree l own_y15 (head1 (Jvm.Cond.code own_y15 prog_1_method_7_code 1 none :: ws) ({ frames := 1, cells := 2, slots := 20, locals := 20 } : Room)) (fun a U => a = #[(.ref th)] ∧ Z.Warmed39 U.vm ∧ U.heap = h0) (fun _ _ _ _ _ => True) (fun _ U o U' => ∃ v L, o = .returned v ∧ (own_nv_Q Z th ba po en p2 b0 b1 Lb h0 n0) v U'.heap L ∧ ReturnedEndW U o U' L ({ frames := 1, cells := 2, slots := 20, locals := 20 } : Room).cells ({ frames := 1, cells := 2, slots := 20, locals := 20 } : Room).slots) := by
  refine MetFree.of_bodySF (plainFor_of_name own_nv_pn) hisR ?_
  intro p e s m args below meth c s₁ Bd hml0 hP hK
  obtain ⟨rfl, hZ, hh⟩ := hP
  have hx := Bd.exec
  have hby := Bd.bytes
  have hml : c.maxLocals = 1 := hml0
  have hown : s.vm.findClass "com/example/honeybee/honeybee/device/DerReader" = some m.cls := findClass_of_methodNamed Bd.named
  have hnm := (name_of_methodNamed Bd.named Bd.method).1
  have hlk : meth.locks = false := Bd.notSynchronized
  have X0 : Stand p l e ({ frames := 1, cells := 2, slots := 20, locals := 20 } : Room) (s.setVm s.vm) m #[(.ref th)] below meth c s₁ [] 0 0 := Stand.of_body Bd
  have hS0 : s.Since s.vm 0 := own_since0 s 0
  have hk0 : 0 ≤ h0.size := Nat.zero_le _
  have hws := own_hws hw
  have e0 : s₁.heap = h0 := by rw [← hh, Bd.state]; rfl
  have N0 := Fr.nil n0
  have w_3 := hw _ (List.mem_of_getElem? (l := tables_1) (i := 3) rfl)
  have w_4 := hw _ (List.mem_of_getElem? (l := tables_1) (i := 4) rfl)
  have w_37 := hw _ (List.mem_of_getElem? (l := tables_1) (i := 37) rfl)
  have w_38 := hw _ (List.mem_of_getElem? (l := tables_1) (i := 38) rfl)
  have w_39 := hw _ (List.mem_of_getElem? (l := tables_1) (i := 39) rfl)
  have w_40 := hw _ (List.mem_of_getElem? (l := tables_1) (i := 40) rfl)
  have w_109 := hw _ (List.mem_of_getElem? (l := tables_1) (i := 109) rfl)
  show own_G p.tables e below (fun o U' => ∃ v L, o = .returned v ∧ (own_nv_Q Z th ba po en p2 b0 b1 Lb h0 n0) v U'.heap L ∧ ReturnedEndW s o U' L ({ frames := 1, cells := 2, slots := 20, locals := 20 } : Room).cells ({ frames := 1, cells := 2, slots := 20, locals := 20 } : Room).slots) (s₁.setTop (entryFrame m #[(.ref th)] 1))
  refine own_go (B := s₁.setTop (mkF m 0 #[rv th] [])) (fun t k => castTop (own_nv_ef m th) k) ?_
  have K0 := Keep.refl h0 [th]
  have nba := own_Ar_ne E0 w_3 V0
  refine own_go (B := (s₁.setTop (mkF m 1 #[rv th] [(.ref th)]))) (fun t k => XS.aloadN X0.here hx rfl (hb hby own_nv_d0) rfl rfl k) ?_
  refine own_go (B := (s₁.setTop (mkF m 2 #[rv th] [(.int (5 : Int32)), (.ref th)]))) (fun t k => own_iconst (v := (5 : Int32)) X0.here hx rfl (hb hby own_nv_d1) (by decide) k) ?_
  obtain ⟨a1, T1, h1, k1, X1, e1, E1, hS1, hk1, hZ1, ho1, st1⟩ := ldcS (s := s) (vm0 := s.vm) X0 hx hZ hown w_109 hws e0 hS0 hk0 (g := (mkF m 2 #[rv th] [(.int (5 : Int32)), (.ref th)])) rfl (hb hby own_nv_d2) (n := 16) (by decide) (by decide) (own_b rfl) (own_b rfl)
  refine own_go (B := (T1.setTop (mkF m 4 #[rv th] [(.ref a1), (.int (5 : Int32)), (.ref th)]))) st1 ?_
  have Z2 : n0 ≤ h1.size := Nat.le_trans Z0 E1.1
  have F3 := Exa.ext E1 E0
  have K4 := Keep.ext K0 E1
  have F5 := Fld.ext E1 F9000
  have F6 := Fld.ext E1 F9001
  have F7 := Fld.ext E1 F9002
  have V8 := own_Ar_ext V0 E1
  obtain ⟨pc9, pq9, pr9⟩ := Exa.cell F3
  obtain ⟨_, _, ⟨T9, L9, k9, n9⟩, -, X9, ⟨Lc9, hQ9, l9, yy9, zz9⟩, st9⟩ := X1.privateBack hx (y := own_y2) ho1 (mvT hZ1 w_37) (mvT hZ1 w_38) (own_selp hZ1 w_3 w_39 w_38 (by decide)) (Cond.privateMethod_at (mvP hZ1 w_39 (args := #[]))) (mvT hZ1 w_40) (by decide) (backOf (W := 0) (own_hd l Z a0 hw [] th (5 : Int32) a1 ba po en p2 b0 b1 (0 : Int32) Lb h1 n0 Z2 F3 g0 F5 F6 F7 V8 q0 q0b q1 hv1 q2 hv2 q3 q4 hp2 q5) hZ1 w_40 w_4 (by decide) (by decide)) (g := (mkF m 4 #[rv th] [(.ref a1), (.int (5 : Int32)), (.ref th)])) rfl (by rw [hml]; rfl) (Steps.refl _) (a := th) (by rw [e1]; exact pq9) pr9 (argsL := [(.int (5 : Int32)), (.ref a1)]) (rest := []) (lenOf own_pd2 rfl) rfl (by show 2 * 0 + _ ≤ _; exact own_b rfl) (hb hby own_nv_d4) (fun _ _ => ⟨rfl, e1, (own_b rfl : 2 + 0 ≤ _), (own_b rfl : 20 + 0 ≤ _)⟩)
  dsimp only [Pt.U, Pt.locs, Pt.cells, Pt.slots] at X9 l9 yy9 zz9 st9 hQ9
  obtain ⟨rfl, Nq9, K9, Ex9, gb9, gp9, ge9⟩ := hQ9
  obtain ⟨L9, X9, N9⟩ := own_absC (K := 2) (K' := 20) X9 l9 yy9 zz9 N0 Nq9
  have F10 : n0 ≤ T9.heap.size := Nat.le_trans Z2 K9.1
  have F11 := Exa.keep F3 K9
  have F12 := Keep.trans K4 K9 (allS (Or.inl (List.mem_of_getElem? (i := 0) rfl)) all0)
  have F16 := own_Ar_keep V8 K9 (ninS (Ne.symm nba) nin0)
  have F17 : k1 ≤ T9.heap.size := Nat.le_trans hk1 K9.1
  refine own_tr (B := (T9.setTop (mkF m 7 #[rv th] [(.int (0 : Int32))]))) st9 ?_
  have hc7 : (0 : Int32) = (0 : Int32) := (by decide)
  refine own_ifY X9 hx (hb hby own_nv_d7) (pc' := 20) (by decide) (by decide) hc7 ?_
  exact own_retWV X9 hx hlk hS1 F17 Bd.returns (hb hby own_nv_d20) (own_b rfl) (own_b rfl) (Q := (own_nv_Q Z th ba po en p2 b0 b1 Lb h0 n0)) ⟨rfl, N9, F12, Ex9, gb9, gp9, ge9⟩

theorem own_ae_d0 : decode prog_1_method_8_code 0 = .ok (.aload_n 0, 1) := by decide +kernel
theorem own_ae_d1 : decode prog_1_method_8_code 1 = .ok (.getfield 16, 3) := by decide +kernel
theorem own_ae_d4 : decode prog_1_method_8_code 4 = .ok (.aload_n 0, 1) := by decide +kernel
theorem own_ae_d5 : decode prog_1_method_8_code 5 = .ok (.getfield 20, 3) := by decide +kernel
theorem own_ae_d8 : decode prog_1_method_8_code 8 = .ok (.if_icmp .ne 7, 3) := by decide +kernel
theorem own_ae_d11 : decode prog_1_method_8_code 11 = .ok (.iconst 1, 1) := by decide +kernel
theorem own_ae_d12 : decode prog_1_method_8_code 12 = .ok (.goto 4, 3) := by decide +kernel
theorem own_ae_d15 : decode prog_1_method_8_code 15 = .ok (.iconst 0, 1) := by decide +kernel
theorem own_ae_d16 : decode prog_1_method_8_code 16 = .ok (.ireturn, 1) := by decide +kernel
theorem own_ae_pn : plainName "com/example/honeybee/honeybee/device/DerReader" = true := by first | (simp [plainName, overriddenIn]; done) | decide +kernel
theorem own_ae_ef (m : MethodId) (th : Addr) : entryFrame m #[(.ref th)] 1 = mkF m 0 #[rv th] [] := by first | (simp [entryFrame, mkF, argsToLocals, Value.category]; done) | rfl
def own_ae_Q (Z : State) (th : Addr) (po en : Int32) (h0 : Heap) (n0 : Nat) (v : Option Value) (h : Heap) (L : List Loc) : Prop := v = some (.int (own_eqr po en)) ∧ Fr n0 L ∧ h = h0
set_option maxRecDepth 65536 in
set_option maxHeartbeats 40000000 in
theorem own_ae (l : Launch) (Z : State) (a0 : Array Value) (hw : ∀ d ∈ tables_1, d.before a0 Z = true) (ws : List Jvm.Cond) (th : Addr) (po en : Int32) (h0 : Heap) (n0 : Nat) (F1 : Fld Z h0 th "com/example/honeybee/honeybee/device/DerReader" "position" "I" (.int po)) (F2 : Fld Z h0 th "com/example/honeybee/honeybee/device/DerReader" "end" "I" (.int en)) :
    MetFree l own_y17 (head1 (Jvm.Cond.code own_y17 prog_1_method_8_code 1 (some .boolean) :: ws) ({ frames := 0, cells := 0, slots := 0, locals := 0 } : Room)) (fun a U => a = #[(.ref th)] ∧ Z.Warmed39 U.vm ∧ U.heap = h0) (fun _ _ _ _ _ => True) (fun _ U o U' => ∃ v L, o = .returned v ∧ (own_ae_Q Z th po en h0 n0) v U'.heap L ∧ FrameEnd U o U' L ({ frames := 0, cells := 0, slots := 0, locals := 0 } : Room).cells ({ frames := 0, cells := 0, slots := 0, locals := 0 } : Room).slots) := by
  refine MetFree.of_bodySF (plainFor_of_name own_ae_pn) hisR ?_
  intro p e s m args below meth c s₁ Bd hml0 hP hK
  obtain ⟨rfl, hZ, hh⟩ := hP
  have hx := Bd.exec
  have hby := Bd.bytes
  have hml : c.maxLocals = 1 := hml0
  have hown : s.vm.findClass "com/example/honeybee/honeybee/device/DerReader" = some m.cls := findClass_of_methodNamed Bd.named
  have hnm := (name_of_methodNamed Bd.named Bd.method).1
  have hlk : meth.locks = false := Bd.notSynchronized
  have X0 : Stand p l e ({ frames := 0, cells := 0, slots := 0, locals := 0 } : Room) s m #[(.ref th)] below meth c s₁ [] 0 0 := Stand.of_body Bd
  have e0 : s₁.heap = h0 := by rw [← hh, Bd.state]; rfl
  have N0 := Fr.nil n0
  have w_16 := hw _ (List.mem_of_getElem? (l := tables_1) (i := 16) rfl)
  have w_18 := hw _ (List.mem_of_getElem? (l := tables_1) (i := 18) rfl)
  show own_G p.tables e below (fun o U' => ∃ v L, o = .returned v ∧ (own_ae_Q Z th po en h0 n0) v U'.heap L ∧ FrameEnd s o U' L ({ frames := 0, cells := 0, slots := 0, locals := 0 } : Room).cells ({ frames := 0, cells := 0, slots := 0, locals := 0 } : Room).slots) (s₁.setTop (entryFrame m #[(.ref th)] 1))
  refine own_go (B := s₁.setTop (mkF m 0 #[rv th] [])) (fun t k => castTop (own_ae_ef m th) k) ?_
  refine own_go (B := (s₁.setTop (mkF m 1 #[rv th] [(.ref th)]))) (fun t k => XS.aloadN X0.here hx rfl (hb hby own_ae_d0) rfl rfl k) ?_
  obtain ⟨T6, X6, e6, st6⟩ := getF X0 hx hZ hown (host := "") (Or.inl w_16) Via.refl e0 F1 (g := (mkF m 1 #[rv th] [(.ref th)])) rfl rfl (hb hby own_ae_d1)
  refine own_go (B := (T6.setTop (mkF m 4 #[rv th] [(.int po)]))) st6 ?_
  refine own_go (B := (T6.setTop (mkF m 5 #[rv th] [(.ref th), (.int po)]))) (fun t k => XS.aloadN X6.here hx rfl (hb hby own_ae_d4) rfl rfl k) ?_
  obtain ⟨T7, X7, e7, st7⟩ := getF X6 hx hZ hown (host := "") (Or.inl w_18) Via.refl e6 F2 (g := (mkF m 5 #[rv th] [(.ref th), (.int po)])) rfl rfl (hb hby own_ae_d5)
  refine own_go (B := (T7.setTop (mkF m 8 #[rv th] [(.int en), (.int po)]))) st7 ?_
  refine own_icmp X7 hx (hb hby own_ae_d8) (pc' := 15) (pn := 11) (by decide) (by decide) rfl (fun (hc8 : ¬ po = en) => ?_) (fun (hc8 : po = en) => ?_)
  · refine own_go (B := (T7.setTop (mkF m 16 #[rv th] [(.int (0 : Int32))]))) (fun t k => own_iconst (v := (0 : Int32)) X7.here hx rfl (hb hby own_ae_d15) (by decide) k) ?_
    exact own_retZ X7 hx hlk Bd.returns (hb hby own_ae_d16) (by decide) (own_b rfl) (own_b rfl) (Q := (own_ae_Q Z th po en h0 n0)) ⟨by rw [own_eqr, if_neg hc8], N0, e7⟩
  · refine own_go (B := (T7.setTop (mkF m 12 #[rv th] [(.int (1 : Int32))]))) (fun t k => own_iconst (v := (1 : Int32)) X7.here hx rfl (hb hby own_ae_d11) (by decide) k) ?_
    refine own_go (B := (T7.setTop (mkF m 16 #[rv th] [(.int (1 : Int32))]))) (fun t k => XS.goto X7.here hx rfl (pc0 := 12) (pc' := 16) rfl (hb hby own_ae_d12) (by decide) (by decide) k) ?_
    exact own_retZ X7 hx hlk Bd.returns (hb hby own_ae_d16) (by decide) (own_b rfl) (own_b rfl) (Q := (own_ae_Q Z th po en h0 n0)) ⟨by rw [own_eqr, if_pos hc8], N0, e7⟩

theorem own_num_d0 : decode jdk_18_method_1_code 0 = .ok (.aload_n 0, 1) := by decide +kernel
theorem own_num_d1 : decode jdk_18_method_1_code 1 = .ok (.invokespecial 1, 3) := by decide +kernel
theorem own_num_d4 : decode jdk_18_method_1_code 4 = .ok (.return_, 1) := by decide +kernel
theorem own_num_pn : plainName "java/lang/Number" = true := by first | (simp [plainName, overriddenIn]; done) | decide +kernel
theorem own_num_ef (m : MethodId) (ra : Addr) : entryFrame m #[(.ref ra)] 1 = mkF m 0 #[rv ra] [] := by first | (simp [entryFrame, mkF, argsToLocals, Value.category]; done) | rfl
def own_num_Q (Z : State) (ra : Addr) (h0 : Heap) (n0 : Nat) (v : Option Value) (h : Heap) (L : List Loc) : Prop := v = none ∧ Fr n0 L ∧ h = h0
set_option maxRecDepth 65536 in
set_option maxHeartbeats 40000000 in
theorem own_num (l : Launch) (Z : State) (a0 : Array Value) (hw : ∀ d ∈ tables_1, d.before a0 Z = true) (ws : List Jvm.Cond) (ra : Addr) (h0 : Heap) (n0 : Nat) :
    MetFree l own_y4 (head1 (Jvm.Cond.code own_y4 jdk_18_method_1_code 1 none :: ws) ({ frames := 1, cells := 0, slots := 0, locals := 12 } : Room)) (fun a U => a = #[(.ref ra)] ∧ Z.Warmed39 U.vm ∧ U.heap = h0) (fun _ _ _ _ _ => True) (fun _ U o U' => ∃ v L, o = .returned v ∧ (own_num_Q Z ra h0 n0) v U'.heap L ∧ FrameEnd U o U' L ({ frames := 1, cells := 0, slots := 0, locals := 12 } : Room).cells ({ frames := 1, cells := 0, slots := 0, locals := 12 } : Room).slots) := by
  refine MetFree.of_bodySF (plainFor_of_name own_num_pn) hisR ?_
  intro p e s m args below meth c s₁ Bd hml0 hP hK
  obtain ⟨rfl, hZ, hh⟩ := hP
  have hx := Bd.exec
  have hby := Bd.bytes
  have hml : c.maxLocals = 1 := hml0
  have hown : s.vm.findClass "java/lang/Number" = some m.cls := findClass_of_methodNamed Bd.named
  have hnm := (name_of_methodNamed Bd.named Bd.method).1
  have hlk : meth.locks = false := Bd.notSynchronized
  have X0 : Stand p l e ({ frames := 1, cells := 0, slots := 0, locals := 12 } : Room) s m #[(.ref ra)] below meth c s₁ [] 0 0 := Stand.of_body Bd
  have e0 : s₁.heap = h0 := by rw [← hh, Bd.state]; rfl
  have N0 := Fr.nil n0
  have w_12 := hw _ (List.mem_of_getElem? (l := tables_1) (i := 12) rfl)
  have w_13 := hw _ (List.mem_of_getElem? (l := tables_1) (i := 13) rfl)
  have w_86 := hw _ (List.mem_of_getElem? (l := tables_1) (i := 86) rfl)
  show own_G p.tables e below (fun o U' => ∃ v L, o = .returned v ∧ (own_num_Q Z ra h0 n0) v U'.heap L ∧ FrameEnd s o U' L ({ frames := 1, cells := 0, slots := 0, locals := 12 } : Room).cells ({ frames := 1, cells := 0, slots := 0, locals := 12 } : Room).slots) (s₁.setTop (entryFrame m #[(.ref ra)] 1))
  refine own_go (B := s₁.setTop (mkF m 0 #[rv ra] [])) (fun t k => castTop (own_num_ef m ra) k) ?_
  refine own_go (B := (s₁.setTop (mkF m 1 #[rv ra] [(.ref ra)]))) (fun t k => XS.aloadN X0.here hx rfl (hb hby own_num_d0) rfl rfl k) ?_
  obtain ⟨T1, X1, e1, st1⟩ := initO X0 hx hZ hown w_86 w_12 w_13 e0 (g := (mkF m 1 #[rv ra] [(.ref ra)])) rfl (by rw [hml]; rfl) rfl (hb hby own_num_d1) (by decide) (W := 0) (by show 2 * 0 + _ ≤ _; exact own_b rfl) (by decide)
  refine own_go (B := (T1.setTop (mkF m 4 #[rv ra] []))) st1 ?_
  exact own_retV X1 hx hlk Bd.returns (hb hby own_num_d4) (own_b rfl) (own_b rfl) (Q := (own_num_Q Z ra h0 n0)) ⟨rfl, N0, e1⟩

theorem own_pcf_d0 : decode jdk_41_method_13_code 0 = .ok (.iload_n 2, 1) := by decide +kernel
theorem own_pcf_d1 : decode jdk_41_method_13_code 1 = .ok (.iload_n 0, 1) := by decide +kernel
theorem own_pcf_d2 : decode jdk_41_method_13_code 2 = .ok (.ior, 1) := by decide +kernel
theorem own_pcf_d3 : decode jdk_41_method_13_code 3 = .ok (.iload_n 1, 1) := by decide +kernel
theorem own_pcf_d4 : decode jdk_41_method_13_code 4 = .ok (.ior, 1) := by decide +kernel
theorem own_pcf_d5 : decode jdk_41_method_13_code 5 = .ok (.ifCond .lt 10, 3) := by decide +kernel
theorem own_pcf_d8 : decode jdk_41_method_13_code 8 = .ok (.iload_n 1, 1) := by decide +kernel
theorem own_pcf_d9 : decode jdk_41_method_13_code 9 = .ok (.iload_n 2, 1) := by decide +kernel
theorem own_pcf_d10 : decode jdk_41_method_13_code 10 = .ok (.iload_n 0, 1) := by decide +kernel
theorem own_pcf_d11 : decode jdk_41_method_13_code 11 = .ok (.isub, 1) := by decide +kernel
theorem own_pcf_d12 : decode jdk_41_method_13_code 12 = .ok (.if_icmp .le 11, 3) := by decide +kernel
theorem own_pcf_d23 : decode jdk_41_method_13_code 23 = .ok (.iload_n 0, 1) := by decide +kernel
theorem own_pcf_d24 : decode jdk_41_method_13_code 24 = .ok (.ireturn, 1) := by decide +kernel
theorem own_pcf_pn : plainName "jdk/internal/util/Preconditions" = true := by first | (simp [plainName, overriddenIn]; done) | decide +kernel
theorem own_pcf_ef (m : MethodId) : entryFrame m #[(.int (0 : Int32)), (.int (1 : Int32)), (.int (1 : Int32)), .null] 4 = mkF m 0 #[iv (0 : Int32), iv (1 : Int32), iv (1 : Int32), .val .null] [] := by first | (simp [entryFrame, mkF, argsToLocals, Value.category]; done) | rfl
def own_pcf_Q (Z : State) (h0 : Heap) (n0 : Nat) (v : Option Value) (h : Heap) (L : List Loc) : Prop := v = some (.int (0 : Int32)) ∧ Fr n0 L ∧ h = h0
set_option maxRecDepth 65536 in
set_option maxHeartbeats 40000000 in
theorem own_pcf (l : Launch) (Z : State) (a0 : Array Value) (hw : ∀ d ∈ tables_1, d.before a0 Z = true) (ws : List Jvm.Cond) (h0 : Heap) (n0 : Nat) :
    MetFree l own_y3 (head1 (Jvm.Cond.code own_y3 jdk_41_method_13_code 4 (some .int) :: ws) ({ frames := 0, cells := 0, slots := 0, locals := 0 } : Room)) (fun a U => a = #[(.int (0 : Int32)), (.int (1 : Int32)), (.int (1 : Int32)), .null] ∧ Z.Warmed39 U.vm ∧ U.heap = h0) (fun _ _ _ _ _ => True) (fun _ U o U' => ∃ v L, o = .returned v ∧ (own_pcf_Q Z h0 n0) v U'.heap L ∧ FrameEnd U o U' L ({ frames := 0, cells := 0, slots := 0, locals := 0 } : Room).cells ({ frames := 0, cells := 0, slots := 0, locals := 0 } : Room).slots) := by
  refine MetFree.of_bodySF (plainFor_of_name own_pcf_pn) hisR ?_
  intro p e s m args below meth c s₁ Bd hml0 hP hK
  obtain ⟨rfl, hZ, hh⟩ := hP
  have hx := Bd.exec
  have hby := Bd.bytes
  have hml : c.maxLocals = 4 := hml0
  have hown : s.vm.findClass "jdk/internal/util/Preconditions" = some m.cls := findClass_of_methodNamed Bd.named
  have hnm := (name_of_methodNamed Bd.named Bd.method).1
  have hlk : meth.locks = false := Bd.notSynchronized
  have X0 : Stand p l e ({ frames := 0, cells := 0, slots := 0, locals := 0 } : Room) s m #[(.int (0 : Int32)), (.int (1 : Int32)), (.int (1 : Int32)), .null] below meth c s₁ [] 0 0 := Stand.of_body Bd
  have e0 : s₁.heap = h0 := by rw [← hh, Bd.state]; rfl
  have N0 := Fr.nil n0
  show own_G p.tables e below (fun o U' => ∃ v L, o = .returned v ∧ (own_pcf_Q Z h0 n0) v U'.heap L ∧ FrameEnd s o U' L ({ frames := 0, cells := 0, slots := 0, locals := 0 } : Room).cells ({ frames := 0, cells := 0, slots := 0, locals := 0 } : Room).slots) (s₁.setTop (entryFrame m #[(.int (0 : Int32)), (.int (1 : Int32)), (.int (1 : Int32)), .null] 4))
  refine own_go (B := s₁.setTop (mkF m 0 #[iv (0 : Int32), iv (1 : Int32), iv (1 : Int32), .val .null] [])) (fun t k => castTop (own_pcf_ef m) k) ?_
  refine own_go (B := (s₁.setTop (mkF m 1 #[iv (0 : Int32), iv (1 : Int32), iv (1 : Int32), .val .null] [(.int (1 : Int32))]))) (fun t k => XS.iloadN X0.here hx rfl (hb hby own_pcf_d0) rfl k) ?_
  refine own_go (B := (s₁.setTop (mkF m 2 #[iv (0 : Int32), iv (1 : Int32), iv (1 : Int32), .val .null] [(.int (0 : Int32)), (.int (1 : Int32))]))) (fun t k => XS.iloadN X0.here hx rfl (hb hby own_pcf_d1) rfl k) ?_
  refine own_go (B := (s₁.setTop (mkF m 3 #[iv (0 : Int32), iv (1 : Int32), iv (1 : Int32), .val .null] [(.int ((1 : Int32) ||| (0 : Int32)))]))) (fun t k => XS.ior (x := (1 : Int32)) (y := (0 : Int32)) X0.here hx rfl (hb hby own_pcf_d2) rfl k) ?_
  rw [show ((1 : Int32) ||| (0 : Int32)) = (1 : Int32) from by decide]
  refine own_go (B := (s₁.setTop (mkF m 4 #[iv (0 : Int32), iv (1 : Int32), iv (1 : Int32), .val .null] [(.int (1 : Int32)), (.int (1 : Int32))]))) (fun t k => XS.iloadN X0.here hx rfl (hb hby own_pcf_d3) rfl k) ?_
  refine own_go (B := (s₁.setTop (mkF m 5 #[iv (0 : Int32), iv (1 : Int32), iv (1 : Int32), .val .null] [(.int ((1 : Int32) ||| (1 : Int32)))]))) (fun t k => XS.ior (x := (1 : Int32)) (y := (1 : Int32)) X0.here hx rfl (hb hby own_pcf_d4) rfl k) ?_
  rw [show ((1 : Int32) ||| (1 : Int32)) = (1 : Int32) from by decide]
  have hc5 : ¬ (1 : Int32) < (0 : Int32) := (by decide)
  refine own_ifN X0 hx (hb hby own_pcf_d5) (pn := 8) rfl hc5 ?_
  refine own_go (B := (s₁.setTop (mkF m 9 #[iv (0 : Int32), iv (1 : Int32), iv (1 : Int32), .val .null] [(.int (1 : Int32))]))) (fun t k => XS.iloadN X0.here hx rfl (hb hby own_pcf_d8) rfl k) ?_
  refine own_go (B := (s₁.setTop (mkF m 10 #[iv (0 : Int32), iv (1 : Int32), iv (1 : Int32), .val .null] [(.int (1 : Int32)), (.int (1 : Int32))]))) (fun t k => XS.iloadN X0.here hx rfl (hb hby own_pcf_d9) rfl k) ?_
  refine own_go (B := (s₁.setTop (mkF m 11 #[iv (0 : Int32), iv (1 : Int32), iv (1 : Int32), .val .null] [(.int (0 : Int32)), (.int (1 : Int32)), (.int (1 : Int32))]))) (fun t k => XS.iloadN X0.here hx rfl (hb hby own_pcf_d10) rfl k) ?_
  refine own_go (B := (s₁.setTop (mkF m 12 #[iv (0 : Int32), iv (1 : Int32), iv (1 : Int32), .val .null] [(.int ((1 : Int32) - (0 : Int32))), (.int (1 : Int32))]))) (fun t k => XS.isub (x := (1 : Int32)) (y := (0 : Int32)) X0.here hx rfl (hb hby own_pcf_d11) rfl k) ?_
  rw [show ((1 : Int32) - (0 : Int32)) = (1 : Int32) from by decide]
  have hc12 : ¬ (1 : Int32) < (1 : Int32) := (by decide)
  refine own_icmpY X0 hx (hb hby own_pcf_d12) (pc' := 23) (by decide) (by decide) hc12 ?_
  refine own_go (B := (s₁.setTop (mkF m 24 #[iv (0 : Int32), iv (1 : Int32), iv (1 : Int32), .val .null] [(.int (0 : Int32))]))) (fun t k => XS.iloadN X0.here hx rfl (hb hby own_pcf_d23) rfl k) ?_
  exact own_retI X0 hx hlk Bd.returns (hb hby own_pcf_d24) (own_b rfl) (own_b rfl) (Q := (own_pcf_Q Z h0 n0)) ⟨rfl, N0, e0⟩

theorem own_ocf_d0 : decode jdk_31_method_19_code 0 = .ok (.iload_n 0, 1) := by decide +kernel
theorem own_ocf_d1 : decode jdk_31_method_19_code 1 = .ok (.iload_n 1, 1) := by decide +kernel
theorem own_ocf_d2 : decode jdk_31_method_19_code 2 = .ok (.iload_n 2, 1) := by decide +kernel
theorem own_ocf_d3 : decode jdk_31_method_19_code 3 = .ok (.aconst_null, 1) := by decide +kernel
theorem own_ocf_d4 : decode jdk_31_method_19_code 4 = .ok (.invokestatic 115, 3) := by decide +kernel
theorem own_ocf_d7 : decode jdk_31_method_19_code 7 = .ok (.ireturn, 1) := by decide +kernel
theorem own_ocf_pn : plainName "java/util/Objects" = true := by first | (simp [plainName, overriddenIn]; done) | decide +kernel
theorem own_ocf_ef (m : MethodId) : entryFrame m #[(.int (0 : Int32)), (.int (1 : Int32)), (.int (1 : Int32))] 3 = mkF m 0 #[iv (0 : Int32), iv (1 : Int32), iv (1 : Int32)] [] := by first | (simp [entryFrame, mkF, argsToLocals, Value.category]; done) | rfl
def own_ocf_Q (Z : State) (h0 : Heap) (n0 : Nat) (v : Option Value) (h : Heap) (L : List Loc) : Prop := v = some (.int (0 : Int32)) ∧ Fr n0 L ∧ h = h0
set_option maxRecDepth 65536 in
set_option maxHeartbeats 40000000 in
theorem own_ocf (l : Launch) (Z : State) (a0 : Array Value) (hw : ∀ d ∈ tables_1, d.before a0 Z = true) (ws : List Jvm.Cond) (h0 : Heap) (n0 : Nat) :
    MetFree l own_y5 (head1 (Jvm.Cond.code own_y5 jdk_31_method_19_code 3 (some .int) :: ws) ({ frames := 1, cells := 0, slots := 0, locals := 15 } : Room)) (fun a U => a = #[(.int (0 : Int32)), (.int (1 : Int32)), (.int (1 : Int32))] ∧ Z.Warmed39 U.vm ∧ U.heap = h0) (fun _ _ _ _ _ => True) (fun _ U o U' => ∃ v L, o = .returned v ∧ (own_ocf_Q Z h0 n0) v U'.heap L ∧ FrameEnd U o U' L ({ frames := 1, cells := 0, slots := 0, locals := 15 } : Room).cells ({ frames := 1, cells := 0, slots := 0, locals := 15 } : Room).slots) := by
  refine MetFree.of_bodySF (plainFor_of_name own_ocf_pn) hisR ?_
  intro p e s m args below meth c s₁ Bd hml0 hP hK
  obtain ⟨rfl, hZ, hh⟩ := hP
  have hx := Bd.exec
  have hby := Bd.bytes
  have hml : c.maxLocals = 3 := hml0
  have hown : s.vm.findClass "java/util/Objects" = some m.cls := findClass_of_methodNamed Bd.named
  have hnm := (name_of_methodNamed Bd.named Bd.method).1
  have hlk : meth.locks = false := Bd.notSynchronized
  have X0 : Stand p l e ({ frames := 1, cells := 0, slots := 0, locals := 15 } : Room) s m #[(.int (0 : Int32)), (.int (1 : Int32)), (.int (1 : Int32))] below meth c s₁ [] 0 0 := Stand.of_body Bd
  have e0 : s₁.heap = h0 := by rw [← hh, Bd.state]; rfl
  have N0 := Fr.nil n0
  have w_91 := hw _ (List.mem_of_getElem? (l := tables_1) (i := 91) rfl)
  have w_92 := hw _ (List.mem_of_getElem? (l := tables_1) (i := 92) rfl)
  have w_93 := hw _ (List.mem_of_getElem? (l := tables_1) (i := 93) rfl)
  have w_94 := hw _ (List.mem_of_getElem? (l := tables_1) (i := 94) rfl)
  show own_G p.tables e below (fun o U' => ∃ v L, o = .returned v ∧ (own_ocf_Q Z h0 n0) v U'.heap L ∧ FrameEnd s o U' L ({ frames := 1, cells := 0, slots := 0, locals := 15 } : Room).cells ({ frames := 1, cells := 0, slots := 0, locals := 15 } : Room).slots) (s₁.setTop (entryFrame m #[(.int (0 : Int32)), (.int (1 : Int32)), (.int (1 : Int32))] 3))
  refine own_go (B := s₁.setTop (mkF m 0 #[iv (0 : Int32), iv (1 : Int32), iv (1 : Int32)] [])) (fun t k => castTop (own_ocf_ef m) k) ?_
  refine own_go (B := (s₁.setTop (mkF m 1 #[iv (0 : Int32), iv (1 : Int32), iv (1 : Int32)] [(.int (0 : Int32))]))) (fun t k => XS.iloadN X0.here hx rfl (hb hby own_ocf_d0) rfl k) ?_
  refine own_go (B := (s₁.setTop (mkF m 2 #[iv (0 : Int32), iv (1 : Int32), iv (1 : Int32)] [(.int (1 : Int32)), (.int (0 : Int32))]))) (fun t k => XS.iloadN X0.here hx rfl (hb hby own_ocf_d1) rfl k) ?_
  refine own_go (B := (s₁.setTop (mkF m 3 #[iv (0 : Int32), iv (1 : Int32), iv (1 : Int32)] [(.int (1 : Int32)), (.int (1 : Int32)), (.int (0 : Int32))]))) (fun t k => XS.iloadN X0.here hx rfl (hb hby own_ocf_d2) rfl k) ?_
  refine own_go (B := (s₁.setTop (mkF m 4 #[iv (0 : Int32), iv (1 : Int32), iv (1 : Int32)] [.null, (.int (1 : Int32)), (.int (1 : Int32)), (.int (0 : Int32))]))) (fun t k => XS.aconstNull X0.here hx rfl (hb hby own_ocf_d3) k) ?_
  obtain ⟨_, _, ⟨T1, L1, k1, n1⟩, -, X1, ⟨Lc1, hQ1, l1, yy1, zz1⟩, st1⟩ := Jvm.LawKit.callS X0 hx (y := own_y3) hown (mvT hZ w_91) (mvT hZ w_92) (mvT hZ w_93) (mvT hZ w_94) (by decide) (backOf (W := 0) (own_pcf l Z a0 hw [] h0 n0) hZ w_94 w_93 (by decide) (by decide)) (g := (mkF m 4 #[iv (0 : Int32), iv (1 : Int32), iv (1 : Int32)] [.null, (.int (1 : Int32)), (.int (1 : Int32)), (.int (0 : Int32))])) rfl (by rw [hml]; rfl) (argsL := [(.int (0 : Int32)), (.int (1 : Int32)), (.int (1 : Int32)), .null]) (rest := []) (lenOf own_pd3 rfl) rfl (by show 2 * 0 + _ ≤ _; exact own_b rfl) (hb hby own_ocf_d4) (fun _ _ => ⟨rfl, e0, (own_b rfl : 0 + 0 ≤ _), (own_b rfl : 0 + 0 ≤ _)⟩)
  dsimp only [Pt.U, Pt.locs, Pt.cells, Pt.slots] at X1 l1 yy1 zz1 st1 hQ1
  obtain ⟨rfl, Nq1, eq1⟩ := hQ1
  obtain ⟨L1, X1, N1⟩ := own_absC (K := 0) (K' := 0) X1 l1 yy1 zz1 N0 Nq1
  have e1 : T1.heap = h0 := eq1
  refine own_go (B := (T1.setTop (mkF m 7 #[iv (0 : Int32), iv (1 : Int32), iv (1 : Int32)] [(.int (0 : Int32))]))) st1 ?_
  exact own_retI X1 hx hlk Bd.returns (hb hby own_ocf_d7) (own_b rfl) (own_b rfl) (Q := (own_ocf_Q Z h0 n0)) ⟨rfl, N1, e1⟩

theorem own_sl_d0 : decode jdk_2097_method_142_code 0 = .ok (.iload_n 3, 1) := by decide +kernel
theorem own_sl_d1 : decode jdk_2097_method_142_code 1 = .ok (.ifCond .ne 10, 3) := by decide +kernel
theorem own_sl_d11 : decode jdk_2097_method_142_code 11 = .ok (.iload_n 2, 1) := by decide +kernel
theorem own_sl_d12 : decode jdk_2097_method_142_code 12 = .ok (.iload_n 3, 1) := by decide +kernel
theorem own_sl_d13 : decode jdk_2097_method_142_code 13 = .ok (.iadd, 1) := by decide +kernel
theorem own_sl_d14 : decode jdk_2097_method_142_code 14 = .ok (.istore 4, 2) := by decide +kernel
theorem own_sl_d16 : decode jdk_2097_method_142_code 16 = .ok (.iload_n 0, 1) := by decide +kernel
theorem own_sl_d17 : decode jdk_2097_method_142_code 17 = .ok (.bipush (-128), 2) := by decide +kernel
theorem own_sl_d19 : decode jdk_2097_method_142_code 19 = .ok (.if_icmp .ge 7, 3) := by decide +kernel
theorem own_sl_d26 : decode jdk_2097_method_142_code 26 = .ok (.iinc 2 1, 3) := by decide +kernel
theorem own_sl_d29 : decode jdk_2097_method_142_code 29 = .ok (.iload_n 0, 1) := by decide +kernel
theorem own_sl_d30 : decode jdk_2097_method_142_code 30 = .ok (.ifCond .ne 19, 3) := by decide +kernel
theorem own_sl_d33 : decode jdk_2097_method_142_code 33 = .ok (.iload_n 2, 1) := by decide +kernel
theorem own_sl_d34 : decode jdk_2097_method_142_code 34 = .ok (.iload 4, 2) := by decide +kernel
theorem own_sl_d36 : decode jdk_2097_method_142_code 36 = .ok (.if_icmp .ge 13, 3) := by decide +kernel
theorem own_sl_d49 : decode jdk_2097_method_142_code 49 = .ok (.iload_n 0, 1) := by decide +kernel
theorem own_sl_d50 : decode jdk_2097_method_142_code 50 = .ok (.ifCond .ne 10, 3) := by decide +kernel
theorem own_sl_d53 : decode jdk_2097_method_142_code 53 = .ok (.getstatic 22, 3) := by decide +kernel
theorem own_sl_d56 : decode jdk_2097_method_142_code 56 = .ok (.getfield 28, 3) := by decide +kernel
theorem own_sl_d59 : decode jdk_2097_method_142_code 59 = .ok (.areturn, 1) := by decide +kernel
theorem own_sl_d60 : decode jdk_2097_method_142_code 60 = .ok (.iload 4, 2) := by decide +kernel
theorem own_sl_d62 : decode jdk_2097_method_142_code 62 = .ok (.iload_n 2, 1) := by decide +kernel
theorem own_sl_d63 : decode jdk_2097_method_142_code 63 = .ok (.isub, 1) := by decide +kernel
theorem own_sl_d64 : decode jdk_2097_method_142_code 64 = .ok (.iconst 2, 1) := by decide +kernel
theorem own_sl_d65 : decode jdk_2097_method_142_code 65 = .ok (.ishr, 1) := by decide +kernel
theorem own_sl_d66 : decode jdk_2097_method_142_code 66 = .ok (.iconst 1, 1) := by decide +kernel
theorem own_sl_d67 : decode jdk_2097_method_142_code 67 = .ok (.iadd, 1) := by decide +kernel
theorem own_sl_d68 : decode jdk_2097_method_142_code 68 = .ok (.newarray .int, 2) := by decide +kernel
theorem own_sl_d70 : decode jdk_2097_method_142_code 70 = .ok (.astore 5, 2) := by decide +kernel
theorem own_sl_d72 : decode jdk_2097_method_142_code 72 = .ok (.iload_n 0, 1) := by decide +kernel
theorem own_sl_d73 : decode jdk_2097_method_142_code 73 = .ok (.sipush 255, 3) := by decide +kernel
theorem own_sl_d76 : decode jdk_2097_method_142_code 76 = .ok (.iand, 1) := by decide +kernel
theorem own_sl_d77 : decode jdk_2097_method_142_code 77 = .ok (.istore 6, 2) := by decide +kernel
theorem own_sl_d79 : decode jdk_2097_method_142_code 79 = .ok (.iload 4, 2) := by decide +kernel
theorem own_sl_d81 : decode jdk_2097_method_142_code 81 = .ok (.iload_n 2, 1) := by decide +kernel
theorem own_sl_d82 : decode jdk_2097_method_142_code 82 = .ok (.isub, 1) := by decide +kernel
theorem own_sl_d83 : decode jdk_2097_method_142_code 83 = .ok (.iconst 3, 1) := by decide +kernel
theorem own_sl_d84 : decode jdk_2097_method_142_code 84 = .ok (.iand, 1) := by decide +kernel
theorem own_sl_d85 : decode jdk_2097_method_142_code 85 = .ok (.ifCond .eq 24, 3) := by decide +kernel
theorem own_sl_d109 : decode jdk_2097_method_142_code 109 = .ok (.aload 5, 2) := by decide +kernel
theorem own_sl_d111 : decode jdk_2097_method_142_code 111 = .ok (.iconst 0, 1) := by decide +kernel
theorem own_sl_d112 : decode jdk_2097_method_142_code 112 = .ok (.iload 6, 2) := by decide +kernel
theorem own_sl_d114 : decode jdk_2097_method_142_code 114 = .ok (.iastore, 1) := by decide +kernel
theorem own_sl_d115 : decode jdk_2097_method_142_code 115 = .ok (.iconst 1, 1) := by decide +kernel
theorem own_sl_d116 : decode jdk_2097_method_142_code 116 = .ok (.istore 7, 2) := by decide +kernel
theorem own_sl_d118 : decode jdk_2097_method_142_code 118 = .ok (.iload_n 2, 1) := by decide +kernel
theorem own_sl_d119 : decode jdk_2097_method_142_code 119 = .ok (.iload 4, 2) := by decide +kernel
theorem own_sl_d121 : decode jdk_2097_method_142_code 121 = .ok (.if_icmp .ge 62, 3) := by decide +kernel
theorem own_sl_d183 : decode jdk_2097_method_142_code 183 = .ok (.aload 5, 2) := by decide +kernel
theorem own_sl_d185 : decode jdk_2097_method_142_code 185 = .ok (.areturn, 1) := by decide +kernel
theorem own_sl_pn : plainName "java/math/BigInteger" = true := by first | (simp [plainName, overriddenIn]; done) | decide +kernel
theorem own_sl_ef (m : MethodId) (px : Int32) (pb : Addr) : entryFrame m #[(.int px), (.ref pb), (.int (0 : Int32)), (.int (1 : Int32))] 8 = mkF m 0 #[iv px, rv pb, iv (0 : Int32), iv (1 : Int32), .unset, .unset, .unset, .unset] [] := by first | (simp [entryFrame, mkF, argsToLocals, Value.category]; done) | rfl
def own_sl_Q (Z : State) (px : Int32) (pb : Addr) (zz zm : Addr) (h0 : Heap) (n0 : Nat) (v : Option Value) (h : Heap) (L : List Loc) : Prop := ∃ b Lm, v = some (.ref b) ∧ Fr n0 L ∧ Keep h0 h [] ∧ own_Ar Z h b .int Lm ∧ Lm.length ≤ 1
set_option maxRecDepth 65536 in
set_option maxHeartbeats 40000000 in
theorem own_sl (l : Launch) (Z : State) (a0 : Array Value) (hw : ∀ d ∈ tables_1, d.before a0 Z = true) (ws : List Jvm.Cond) (px : Int32) (pb : Addr) (zz zm : Addr) (h0 : Heap) (n0 : Nat) (Z0 : n0 ≤ h0.size) (hp : ¬ px < (0 : Int32)) (ZS : Sta Z h0 "java/math/BigInteger" "ZERO" "Ljava/math/BigInteger;" (.ref zz)) (ZE : Exa Z h0 zz "java/math/BigInteger") (ZF : Fld Z h0 zz "java/math/BigInteger" "mag" "[I" (.ref zm)) (ZV : own_Ar Z h0 zm .int []) :
    MetFree l own_y6 (head1 (Jvm.Cond.code own_y6 jdk_2097_method_142_code 8 (some (.array .int)) :: ws) ({ frames := 0, cells := 1, slots := 1, locals := 0 } : Room)) (fun a U => a = #[(.int px), (.ref pb), (.int (0 : Int32)), (.int (1 : Int32))] ∧ Z.Warmed39 U.vm ∧ U.heap = h0) (fun _ _ _ _ _ => True) (fun _ U o U' => ∃ v L, o = .returned v ∧ (own_sl_Q Z px pb zz zm h0 n0) v U'.heap L ∧ FrameEnd U o U' L ({ frames := 0, cells := 1, slots := 1, locals := 0 } : Room).cells ({ frames := 0, cells := 1, slots := 1, locals := 0 } : Room).slots) := by
  refine MetFree.of_bodySF (plainFor_of_name own_sl_pn) hisR ?_
  intro p e s m args below meth c s₁ Bd hml0 hP hK
  obtain ⟨rfl, hZ, hh⟩ := hP
  have hx := Bd.exec
  have hby := Bd.bytes
  have hml : c.maxLocals = 8 := hml0
  have hown : s.vm.findClass "java/math/BigInteger" = some m.cls := findClass_of_methodNamed Bd.named
  have hnm := (name_of_methodNamed Bd.named Bd.method).1
  have hlk : meth.locks = false := Bd.notSynchronized
  have X0 : Stand p l e ({ frames := 0, cells := 1, slots := 1, locals := 0 } : Room) s m #[(.int px), (.ref pb), (.int (0 : Int32)), (.int (1 : Int32))] below meth c s₁ [] 0 0 := Stand.of_body Bd
  have e0 : s₁.heap = h0 := by rw [← hh, Bd.state]; rfl
  have N0 := Fr.nil n0
  have w_98 := hw _ (List.mem_of_getElem? (l := tables_1) (i := 98) rfl)
  have w_99 := hw _ (List.mem_of_getElem? (l := tables_1) (i := 99) rfl)
  have w_113 := hw _ (List.mem_of_getElem? (l := tables_1) (i := 113) rfl)
  show own_G p.tables e below (fun o U' => ∃ v L, o = .returned v ∧ (own_sl_Q Z px pb zz zm h0 n0) v U'.heap L ∧ FrameEnd s o U' L ({ frames := 0, cells := 1, slots := 1, locals := 0 } : Room).cells ({ frames := 0, cells := 1, slots := 1, locals := 0 } : Room).slots) (s₁.setTop (entryFrame m #[(.int px), (.ref pb), (.int (0 : Int32)), (.int (1 : Int32))] 8))
  refine own_go (B := s₁.setTop (mkF m 0 #[iv px, rv pb, iv (0 : Int32), iv (1 : Int32), .unset, .unset, .unset, .unset] [])) (fun t k => castTop (own_sl_ef m px pb) k) ?_
  have K0 := Keep.refl h0 []
  refine own_go (B := (s₁.setTop (mkF m 1 #[iv px, rv pb, iv (0 : Int32), iv (1 : Int32), .unset, .unset, .unset, .unset] [(.int (1 : Int32))]))) (fun t k => XS.iloadN X0.here hx rfl (hb hby own_sl_d0) rfl k) ?_
  have hc1 : ¬ (1 : Int32) = (0 : Int32) := (by decide)
  refine own_ifY X0 hx (hb hby own_sl_d1) (pc' := 11) (by decide) (by decide) hc1 ?_
  refine own_go (B := (s₁.setTop (mkF m 12 #[iv px, rv pb, iv (0 : Int32), iv (1 : Int32), .unset, .unset, .unset, .unset] [(.int (0 : Int32))]))) (fun t k => XS.iloadN X0.here hx rfl (hb hby own_sl_d11) rfl k) ?_
  refine own_go (B := (s₁.setTop (mkF m 13 #[iv px, rv pb, iv (0 : Int32), iv (1 : Int32), .unset, .unset, .unset, .unset] [(.int (1 : Int32)), (.int (0 : Int32))]))) (fun t k => XS.iloadN X0.here hx rfl (hb hby own_sl_d12) rfl k) ?_
  refine own_go (B := (s₁.setTop (mkF m 14 #[iv px, rv pb, iv (0 : Int32), iv (1 : Int32), .unset, .unset, .unset, .unset] [(.int ((0 : Int32) + (1 : Int32)))]))) (fun t k => XS.iadd (x := (0 : Int32)) (y := (1 : Int32)) X0.here hx rfl (hb hby own_sl_d13) rfl k) ?_
  rw [show ((0 : Int32) + (1 : Int32)) = (1 : Int32) from by decide]
  refine own_go (B := (s₁.setTop (mkF m 16 #[iv px, rv pb, iv (0 : Int32), iv (1 : Int32), iv (1 : Int32), .unset, .unset, .unset] []))) (fun t k => XS.istore X0.here hx rfl (hb hby own_sl_d14) rfl (l' := #[iv px, rv pb, iv (0 : Int32), iv (1 : Int32), iv (1 : Int32), .unset, .unset, .unset]) rfl k) ?_
  refine own_go (B := (s₁.setTop (mkF m 17 #[iv px, rv pb, iv (0 : Int32), iv (1 : Int32), iv (1 : Int32), .unset, .unset, .unset] [(.int px)]))) (fun t k => XS.iloadN X0.here hx rfl (hb hby own_sl_d16) rfl k) ?_
  refine own_go (B := (s₁.setTop (mkF m 19 #[iv px, rv pb, iv (0 : Int32), iv (1 : Int32), iv (1 : Int32), .unset, .unset, .unset] [(.int (-128 : Int32)), (.int px)]))) (fun t k => own_bipush (v := (-128 : Int32)) X0.here hx rfl (hb hby own_sl_d17) (by decide) k) ?_
  have hc19 : ¬ px < (-128 : Int32) := (own_m128 hp)
  refine own_icmpY X0 hx (hb hby own_sl_d19) (pc' := 26) (by decide) (by decide) hc19 ?_
  refine own_go (B := (s₁.setTop (mkF m 29 #[iv px, rv pb, iv (1 : Int32), iv (1 : Int32), iv (1 : Int32), .unset, .unset, .unset] []))) (fun t k => XS.iinc X0.here hx rfl (hb hby own_sl_d26) rfl (l' := #[iv px, rv pb, iv (1 : Int32), iv (1 : Int32), iv (1 : Int32), .unset, .unset, .unset]) rfl k) ?_
  refine own_go (B := (s₁.setTop (mkF m 30 #[iv px, rv pb, iv (1 : Int32), iv (1 : Int32), iv (1 : Int32), .unset, .unset, .unset] [(.int px)]))) (fun t k => XS.iloadN X0.here hx rfl (hb hby own_sl_d29) rfl k) ?_
  refine own_if X0 hx (hb hby own_sl_d30) (pc' := 49) (pn := 33) (by decide) (by decide) rfl (fun (hc30 : ¬ px = (0 : Int32)) => ?_) (fun (hc30 : px = (0 : Int32)) => ?_)
  · refine own_go (B := (s₁.setTop (mkF m 50 #[iv px, rv pb, iv (1 : Int32), iv (1 : Int32), iv (1 : Int32), .unset, .unset, .unset] [(.int px)]))) (fun t k => XS.iloadN X0.here hx rfl (hb hby own_sl_d49) rfl k) ?_
    have hc50 : ¬ px = (0 : Int32) := hc30
    refine own_ifY X0 hx (hb hby own_sl_d50) (pc' := 60) (by decide) (by decide) hc50 ?_
    refine own_go (B := (s₁.setTop (mkF m 62 #[iv px, rv pb, iv (1 : Int32), iv (1 : Int32), iv (1 : Int32), .unset, .unset, .unset] [(.int (1 : Int32))]))) (fun t k => XS.iload X0.here hx rfl (hb hby own_sl_d60) rfl k) ?_
    refine own_go (B := (s₁.setTop (mkF m 63 #[iv px, rv pb, iv (1 : Int32), iv (1 : Int32), iv (1 : Int32), .unset, .unset, .unset] [(.int (1 : Int32)), (.int (1 : Int32))]))) (fun t k => XS.iloadN X0.here hx rfl (hb hby own_sl_d62) rfl k) ?_
    refine own_go (B := (s₁.setTop (mkF m 64 #[iv px, rv pb, iv (1 : Int32), iv (1 : Int32), iv (1 : Int32), .unset, .unset, .unset] [(.int ((1 : Int32) - (1 : Int32)))]))) (fun t k => XS.isub (x := (1 : Int32)) (y := (1 : Int32)) X0.here hx rfl (hb hby own_sl_d63) rfl k) ?_
    rw [show ((1 : Int32) - (1 : Int32)) = (0 : Int32) from by decide]
    refine own_go (B := (s₁.setTop (mkF m 65 #[iv px, rv pb, iv (1 : Int32), iv (1 : Int32), iv (1 : Int32), .unset, .unset, .unset] [(.int (2 : Int32)), (.int (0 : Int32))]))) (fun t k => own_iconst (v := (2 : Int32)) X0.here hx rfl (hb hby own_sl_d64) (by decide) k) ?_
    refine own_go (B := (s₁.setTop (mkF m 66 #[iv px, rv pb, iv (1 : Int32), iv (1 : Int32), iv (1 : Int32), .unset, .unset, .unset] [(.int ((0 : Int32) >>> ((2 : Int32) &&& 31)))]))) (fun t k => XS.ishr (x := (0 : Int32)) (y := (2 : Int32)) X0.here hx rfl (hb hby own_sl_d65) rfl k) ?_
    rw [show ((0 : Int32) >>> ((2 : Int32) &&& 31)) = (0 : Int32) from by decide]
    refine own_go (B := (s₁.setTop (mkF m 67 #[iv px, rv pb, iv (1 : Int32), iv (1 : Int32), iv (1 : Int32), .unset, .unset, .unset] [(.int (1 : Int32)), (.int (0 : Int32))]))) (fun t k => own_iconst (v := (1 : Int32)) X0.here hx rfl (hb hby own_sl_d66) (by decide) k) ?_
    refine own_go (B := (s₁.setTop (mkF m 68 #[iv px, rv pb, iv (1 : Int32), iv (1 : Int32), iv (1 : Int32), .unset, .unset, .unset] [(.int ((0 : Int32) + (1 : Int32)))]))) (fun t k => XS.iadd (x := (0 : Int32)) (y := (1 : Int32)) X0.here hx rfl (hb hby own_sl_d67) rfl k) ?_
    rw [show ((0 : Int32) + (1 : Int32)) = (1 : Int32) from by decide]
    obtain ⟨T1, h1, c1, X1, e1, E1, A1, st1⟩ := newP X0 hx hZ (aty := .int) w_113 e0 (g := (mkF m 68 #[iv px, rv pb, iv (1 : Int32), iv (1 : Int32), iv (1 : Int32), .unset, .unset, .unset] [(.int (1 : Int32))])) rfl (hb hby own_sl_d68) rfl (by decide) (cap := 1) (by decide) (by decide) (own_b rfl) (own_b rfl)
    obtain ⟨a1, ga1⟩ : ∃ z, z = h0.size := ⟨_, rfl⟩
    rw [← ga1] at A1 st1
    refine own_go (B := (T1.setTop (mkF m 70 #[iv px, rv pb, iv (1 : Int32), iv (1 : Int32), iv (1 : Int32), .unset, .unset, .unset] [(.ref a1)]))) st1 ?_
    have Z2 : n0 ≤ h1.size := Nat.le_trans Z0 E1.1
    have K3 := Keep.ext K0 E1
    have F4 := Sta.ext E1 ZS
    have F5 := Exa.ext E1 ZE
    have F6 := Fld.ext E1 ZF
    have V7 := own_Ar_ext ZV E1
    have gn1 : n0 ≤ a1 := Nat.le_trans Z0 (Nat.le_of_eq ga1.symm)
    have ne1_zz : a1 ≠ zz := fun q => absurd (ZE.lt) (by rw [← q, ga1]; exact Nat.lt_irrefl _)
    have ne1_zm : a1 ≠ zm := fun q => absurd (own_Ar_lt ZV) (by rw [← q, ga1]; exact Nat.lt_irrefl _)
    have V1 : own_Ar Z h1 a1 .int [(.int (0 : Int32))] := own_Ar_new A1 (N := 1) (by decide) rfl
    refine own_go (B := (T1.setTop (mkF m 72 #[iv px, rv pb, iv (1 : Int32), iv (1 : Int32), iv (1 : Int32), rv a1, .unset, .unset] []))) (fun t k => XS.astore X1.here hx rfl (hb hby own_sl_d70) rfl rfl (l' := #[iv px, rv pb, iv (1 : Int32), iv (1 : Int32), iv (1 : Int32), rv a1, .unset, .unset]) rfl k) ?_
    refine own_go (B := (T1.setTop (mkF m 73 #[iv px, rv pb, iv (1 : Int32), iv (1 : Int32), iv (1 : Int32), rv a1, .unset, .unset] [(.int px)]))) (fun t k => XS.iloadN X1.here hx rfl (hb hby own_sl_d72) rfl k) ?_
    refine own_go (B := (T1.setTop (mkF m 76 #[iv px, rv pb, iv (1 : Int32), iv (1 : Int32), iv (1 : Int32), rv a1, .unset, .unset] [(.int (255 : Int32)), (.int px)]))) (fun t k => own_sipush (v := (255 : Int32)) X1.here hx rfl (hb hby own_sl_d73) (by decide) k) ?_
    refine own_go (B := (T1.setTop (mkF m 77 #[iv px, rv pb, iv (1 : Int32), iv (1 : Int32), iv (1 : Int32), rv a1, .unset, .unset] [(.int (px &&& (255 : Int32)))]))) (fun t k => XS.iand (x := px) (y := (255 : Int32)) X1.here hx rfl (hb hby own_sl_d76) rfl k) ?_
    obtain ⟨z77, hz77⟩ : ∃ z : Int32, z = (px &&& (255 : Int32)) := ⟨_, rfl⟩
    rw [← hz77]
    refine own_go (B := (T1.setTop (mkF m 79 #[iv px, rv pb, iv (1 : Int32), iv (1 : Int32), iv (1 : Int32), rv a1, iv z77, .unset] []))) (fun t k => XS.istore X1.here hx rfl (hb hby own_sl_d77) rfl (l' := #[iv px, rv pb, iv (1 : Int32), iv (1 : Int32), iv (1 : Int32), rv a1, iv z77, .unset]) rfl k) ?_
    refine own_go (B := (T1.setTop (mkF m 81 #[iv px, rv pb, iv (1 : Int32), iv (1 : Int32), iv (1 : Int32), rv a1, iv z77, .unset] [(.int (1 : Int32))]))) (fun t k => XS.iload X1.here hx rfl (hb hby own_sl_d79) rfl k) ?_
    refine own_go (B := (T1.setTop (mkF m 82 #[iv px, rv pb, iv (1 : Int32), iv (1 : Int32), iv (1 : Int32), rv a1, iv z77, .unset] [(.int (1 : Int32)), (.int (1 : Int32))]))) (fun t k => XS.iloadN X1.here hx rfl (hb hby own_sl_d81) rfl k) ?_
    refine own_go (B := (T1.setTop (mkF m 83 #[iv px, rv pb, iv (1 : Int32), iv (1 : Int32), iv (1 : Int32), rv a1, iv z77, .unset] [(.int ((1 : Int32) - (1 : Int32)))]))) (fun t k => XS.isub (x := (1 : Int32)) (y := (1 : Int32)) X1.here hx rfl (hb hby own_sl_d82) rfl k) ?_
    rw [show ((1 : Int32) - (1 : Int32)) = (0 : Int32) from by decide]
    refine own_go (B := (T1.setTop (mkF m 84 #[iv px, rv pb, iv (1 : Int32), iv (1 : Int32), iv (1 : Int32), rv a1, iv z77, .unset] [(.int (3 : Int32)), (.int (0 : Int32))]))) (fun t k => own_iconst (v := (3 : Int32)) X1.here hx rfl (hb hby own_sl_d83) (by decide) k) ?_
    refine own_go (B := (T1.setTop (mkF m 85 #[iv px, rv pb, iv (1 : Int32), iv (1 : Int32), iv (1 : Int32), rv a1, iv z77, .unset] [(.int ((0 : Int32) &&& (3 : Int32)))]))) (fun t k => XS.iand (x := (0 : Int32)) (y := (3 : Int32)) X1.here hx rfl (hb hby own_sl_d84) rfl k) ?_
    rw [show ((0 : Int32) &&& (3 : Int32)) = (0 : Int32) from by decide]
    have hc85 : (0 : Int32) = (0 : Int32) := (by decide)
    refine own_ifY X1 hx (hb hby own_sl_d85) (pc' := 109) (by decide) (by decide) hc85 ?_
    refine own_go (B := (T1.setTop (mkF m 111 #[iv px, rv pb, iv (1 : Int32), iv (1 : Int32), iv (1 : Int32), rv a1, iv z77, .unset] [(.ref a1)]))) (fun t k => XS.aload X1.here hx rfl (hb hby own_sl_d109) rfl rfl k) ?_
    refine own_go (B := (T1.setTop (mkF m 112 #[iv px, rv pb, iv (1 : Int32), iv (1 : Int32), iv (1 : Int32), rv a1, iv z77, .unset] [(.int (0 : Int32)), (.ref a1)]))) (fun t k => own_iconst (v := (0 : Int32)) X1.here hx rfl (hb hby own_sl_d111) (by decide) k) ?_
    refine own_go (B := (T1.setTop (mkF m 114 #[iv px, rv pb, iv (1 : Int32), iv (1 : Int32), iv (1 : Int32), rv a1, iv z77, .unset] [(.int z77), (.int (0 : Int32)), (.ref a1)]))) (fun t k => XS.iload X1.here hx rfl (hb hby own_sl_d112) rfl k) ?_
    obtain ⟨T8, h8, X8, e8, W8, V8, st8⟩ := own_stI X1 hx hZ e1 V1 (i := 0) (by decide) (by decide) (Nat.lt_of_lt_of_eq (by decide : 0 < 1) rfl) (L' := [(.int z77)]) rfl (g := (mkF m 114 #[iv px, rv pb, iv (1 : Int32), iv (1 : Int32), iv (1 : Int32), rv a1, iv z77, .unset] [(.int z77), (.int (0 : Int32)), (.ref a1)])) rfl rfl (hb hby own_sl_d114)
    refine own_go (B := (T8.setTop (mkF m 115 #[iv px, rv pb, iv (1 : Int32), iv (1 : Int32), iv (1 : Int32), rv a1, iv z77, .unset] []))) st8 ?_
    obtain ⟨L8, X8, N8⟩ := own_abs X8 (Fr.snoc X8 N0 gn1)
    have F9 : n0 ≤ h8.size := by rw [W8.size]; exact Z2
    have F10 := Keep.wr K3 W8 (Or.inr (Nat.le_trans K0.1 (Nat.le_of_eq ga1.symm)))
    have F11 := Sta.wr W8 F4
    have F12 := Exa.wr W8 F5
    have F13 := Fld.other W8 F6 (Or.inl (Ne.symm ne1_zz))
    have F14 := own_Ar_other V7 W8 (Ne.symm ne1_zm)
    refine own_go (B := (T8.setTop (mkF m 116 #[iv px, rv pb, iv (1 : Int32), iv (1 : Int32), iv (1 : Int32), rv a1, iv z77, .unset] [(.int (1 : Int32))]))) (fun t k => own_iconst (v := (1 : Int32)) X8.here hx rfl (hb hby own_sl_d115) (by decide) k) ?_
    refine own_go (B := (T8.setTop (mkF m 118 #[iv px, rv pb, iv (1 : Int32), iv (1 : Int32), iv (1 : Int32), rv a1, iv z77, iv (1 : Int32)] []))) (fun t k => XS.istore X8.here hx rfl (hb hby own_sl_d116) rfl (l' := #[iv px, rv pb, iv (1 : Int32), iv (1 : Int32), iv (1 : Int32), rv a1, iv z77, iv (1 : Int32)]) rfl k) ?_
    refine own_go (B := (T8.setTop (mkF m 119 #[iv px, rv pb, iv (1 : Int32), iv (1 : Int32), iv (1 : Int32), rv a1, iv z77, iv (1 : Int32)] [(.int (1 : Int32))]))) (fun t k => XS.iloadN X8.here hx rfl (hb hby own_sl_d118) rfl k) ?_
    refine own_go (B := (T8.setTop (mkF m 121 #[iv px, rv pb, iv (1 : Int32), iv (1 : Int32), iv (1 : Int32), rv a1, iv z77, iv (1 : Int32)] [(.int (1 : Int32)), (.int (1 : Int32))]))) (fun t k => XS.iload X8.here hx rfl (hb hby own_sl_d119) rfl k) ?_
    have hc121 : ¬ (1 : Int32) < (1 : Int32) := (by decide)
    refine own_icmpY X8 hx (hb hby own_sl_d121) (pc' := 183) (by decide) (by decide) hc121 ?_
    refine own_go (B := (T8.setTop (mkF m 185 #[iv px, rv pb, iv (1 : Int32), iv (1 : Int32), iv (1 : Int32), rv a1, iv z77, iv (1 : Int32)] [(.ref a1)]))) (fun t k => XS.aload X8.here hx rfl (hb hby own_sl_d183) rfl rfl k) ?_
    exact own_retA X8 hx hlk Bd.returns rfl rfl (hb hby own_sl_d185) (own_b rfl) (own_b rfl) (Q := (own_sl_Q Z px pb zz zm h0 n0)) (by rw [e8]; exact ⟨_, [(.int z77)], rfl, N8, F10, V8, by exact Nat.le_refl 1⟩)
  · refine own_go (B := (s₁.setTop (mkF m 34 #[iv px, rv pb, iv (1 : Int32), iv (1 : Int32), iv (1 : Int32), .unset, .unset, .unset] [(.int (1 : Int32))]))) (fun t k => XS.iloadN X0.here hx rfl (hb hby own_sl_d33) rfl k) ?_
    refine own_go (B := (s₁.setTop (mkF m 36 #[iv px, rv pb, iv (1 : Int32), iv (1 : Int32), iv (1 : Int32), .unset, .unset, .unset] [(.int (1 : Int32)), (.int (1 : Int32))]))) (fun t k => XS.iload X0.here hx rfl (hb hby own_sl_d34) rfl k) ?_
    have hc36 : ¬ (1 : Int32) < (1 : Int32) := (by decide)
    refine own_icmpY X0 hx (hb hby own_sl_d36) (pc' := 49) (by decide) (by decide) hc36 ?_
    refine own_go (B := (s₁.setTop (mkF m 50 #[iv px, rv pb, iv (1 : Int32), iv (1 : Int32), iv (1 : Int32), .unset, .unset, .unset] [(.int px)]))) (fun t k => XS.iloadN X0.here hx rfl (hb hby own_sl_d49) rfl k) ?_
    have hc50 : px = (0 : Int32) := hc30
    refine own_ifN X0 hx (hb hby own_sl_d50) (pn := 53) rfl hc50 ?_
    obtain ⟨T16, X16, e16, st16⟩ := getS X0 hx hZ hown (host := "") w_98 Via.refl e0 ZS (g := (mkF m 53 #[iv px, rv pb, iv (1 : Int32), iv (1 : Int32), iv (1 : Int32), .unset, .unset, .unset] [])) rfl (hb hby own_sl_d53)
    refine own_go (B := (T16.setTop (mkF m 56 #[iv px, rv pb, iv (1 : Int32), iv (1 : Int32), iv (1 : Int32), .unset, .unset, .unset] [(.ref zz)]))) st16 ?_
    obtain ⟨T17, X17, e17, st17⟩ := getF X16 hx hZ hown (host := "") (Or.inl w_99) Via.refl e16 ZF (g := (mkF m 56 #[iv px, rv pb, iv (1 : Int32), iv (1 : Int32), iv (1 : Int32), .unset, .unset, .unset] [(.ref zz)])) rfl rfl (hb hby own_sl_d56)
    refine own_go (B := (T17.setTop (mkF m 59 #[iv px, rv pb, iv (1 : Int32), iv (1 : Int32), iv (1 : Int32), .unset, .unset, .unset] [(.ref zm)]))) st17 ?_
    exact own_retA X17 hx hlk Bd.returns rfl rfl (hb hby own_sl_d59) (own_b rfl) (own_b rfl) (Q := (own_sl_Q Z px pb zz zm h0 n0)) (by rw [e17]; exact ⟨_, [], rfl, N0, K0, ZV, by decide⟩)

theorem own_mp_d0 : decode jdk_2097_method_143_code 0 = .ok (.iload_n 2, 1) := by decide +kernel
theorem own_mp_d1 : decode jdk_2097_method_143_code 1 = .ok (.iload_n 3, 1) := by decide +kernel
theorem own_mp_d2 : decode jdk_2097_method_143_code 2 = .ok (.iadd, 1) := by decide +kernel
theorem own_mp_d3 : decode jdk_2097_method_143_code 3 = .ok (.istore 4, 2) := by decide +kernel
theorem own_mp_d5 : decode jdk_2097_method_143_code 5 = .ok (.iinc 2 1, 3) := by decide +kernel
theorem own_mp_d8 : decode jdk_2097_method_143_code 8 = .ok (.iload_n 0, 1) := by decide +kernel
theorem own_mp_d9 : decode jdk_2097_method_143_code 9 = .ok (.iconst (-1), 1) := by decide +kernel
theorem own_mp_d10 : decode jdk_2097_method_143_code 10 = .ok (.if_icmp .ne 19, 3) := by decide +kernel
theorem own_mp_d13 : decode jdk_2097_method_143_code 13 = .ok (.iload_n 2, 1) := by decide +kernel
theorem own_mp_d14 : decode jdk_2097_method_143_code 14 = .ok (.iload 4, 2) := by decide +kernel
theorem own_mp_d16 : decode jdk_2097_method_143_code 16 = .ok (.if_icmp .ge 13, 3) := by decide +kernel
theorem own_mp_d29 : decode jdk_2097_method_143_code 29 = .ok (.sipush (-256), 3) := by decide +kernel
theorem own_mp_d32 : decode jdk_2097_method_143_code 32 = .ok (.iload_n 0, 1) := by decide +kernel
theorem own_mp_d33 : decode jdk_2097_method_143_code 33 = .ok (.sipush 255, 3) := by decide +kernel
theorem own_mp_d36 : decode jdk_2097_method_143_code 36 = .ok (.iand, 1) := by decide +kernel
theorem own_mp_d37 : decode jdk_2097_method_143_code 37 = .ok (.ior, 1) := by decide +kernel
theorem own_mp_d38 : decode jdk_2097_method_143_code 38 = .ok (.istore 5, 2) := by decide +kernel
theorem own_mp_d40 : decode jdk_2097_method_143_code 40 = .ok (.iload 4, 2) := by decide +kernel
theorem own_mp_d42 : decode jdk_2097_method_143_code 42 = .ok (.iload_n 2, 1) := by decide +kernel
theorem own_mp_d43 : decode jdk_2097_method_143_code 43 = .ok (.isub, 1) := by decide +kernel
theorem own_mp_d44 : decode jdk_2097_method_143_code 44 = .ok (.iconst 3, 1) := by decide +kernel
theorem own_mp_d45 : decode jdk_2097_method_143_code 45 = .ok (.iand, 1) := by decide +kernel
theorem own_mp_d46 : decode jdk_2097_method_143_code 46 = .ok (.ifCond .eq 26, 3) := by decide +kernel
theorem own_mp_d72 : decode jdk_2097_method_143_code 72 = .ok (.iload_n 2, 1) := by decide +kernel
theorem own_mp_d73 : decode jdk_2097_method_143_code 73 = .ok (.istore 6, 2) := by decide +kernel
theorem own_mp_d75 : decode jdk_2097_method_143_code 75 = .ok (.iload_n 0, 1) := by decide +kernel
theorem own_mp_d76 : decode jdk_2097_method_143_code 76 = .ok (.ifCond .ne 19, 3) := by decide +kernel
theorem own_mp_d95 : decode jdk_2097_method_143_code 95 = .ok (.iload_n 0, 1) := by decide +kernel
theorem own_mp_d96 : decode jdk_2097_method_143_code 96 = .ok (.sipush 255, 3) := by decide +kernel
theorem own_mp_d99 : decode jdk_2097_method_143_code 99 = .ok (.iand, 1) := by decide +kernel
theorem own_mp_d100 : decode jdk_2097_method_143_code 100 = .ok (.istore 7, 2) := by decide +kernel
theorem own_mp_d102 : decode jdk_2097_method_143_code 102 = .ok (.iload 4, 2) := by decide +kernel
theorem own_mp_d104 : decode jdk_2097_method_143_code 104 = .ok (.iload_n 2, 1) := by decide +kernel
theorem own_mp_d105 : decode jdk_2097_method_143_code 105 = .ok (.isub, 1) := by decide +kernel
theorem own_mp_d106 : decode jdk_2097_method_143_code 106 = .ok (.iconst 3, 1) := by decide +kernel
theorem own_mp_d107 : decode jdk_2097_method_143_code 107 = .ok (.iand, 1) := by decide +kernel
theorem own_mp_d108 : decode jdk_2097_method_143_code 108 = .ok (.ifCond .eq 24, 3) := by decide +kernel
theorem own_mp_d132 : decode jdk_2097_method_143_code 132 = .ok (.iload 4, 2) := by decide +kernel
theorem own_mp_d134 : decode jdk_2097_method_143_code 134 = .ok (.iload_n 2, 1) := by decide +kernel
theorem own_mp_d135 : decode jdk_2097_method_143_code 135 = .ok (.isub, 1) := by decide +kernel
theorem own_mp_d136 : decode jdk_2097_method_143_code 136 = .ok (.iload 5, 2) := by decide +kernel
theorem own_mp_d138 : decode jdk_2097_method_143_code 138 = .ok (.ior, 1) := by decide +kernel
theorem own_mp_d139 : decode jdk_2097_method_143_code 139 = .ok (.iload 7, 2) := by decide +kernel
theorem own_mp_d141 : decode jdk_2097_method_143_code 141 = .ok (.ior, 1) := by decide +kernel
theorem own_mp_d142 : decode jdk_2097_method_143_code 142 = .ok (.ifCond .ne 7, 3) := by decide +kernel
theorem own_mp_d149 : decode jdk_2097_method_143_code 149 = .ok (.iconst 0, 1) := by decide +kernel
theorem own_mp_d150 : decode jdk_2097_method_143_code 150 = .ok (.istore 8, 2) := by decide +kernel
theorem own_mp_d152 : decode jdk_2097_method_143_code 152 = .ok (.iload 8, 2) := by decide +kernel
theorem own_mp_d154 : decode jdk_2097_method_143_code 154 = .ok (.iconst 1, 1) := by decide +kernel
theorem own_mp_d155 : decode jdk_2097_method_143_code 155 = .ok (.iadd, 1) := by decide +kernel
theorem own_mp_d156 : decode jdk_2097_method_143_code 156 = .ok (.iload 4, 2) := by decide +kernel
theorem own_mp_d158 : decode jdk_2097_method_143_code 158 = .ok (.iload 6, 2) := by decide +kernel
theorem own_mp_d160 : decode jdk_2097_method_143_code 160 = .ok (.isub, 1) := by decide +kernel
theorem own_mp_d161 : decode jdk_2097_method_143_code 161 = .ok (.iconst 2, 1) := by decide +kernel
theorem own_mp_d162 : decode jdk_2097_method_143_code 162 = .ok (.ishr, 1) := by decide +kernel
theorem own_mp_d163 : decode jdk_2097_method_143_code 163 = .ok (.iadd, 1) := by decide +kernel
theorem own_mp_d164 : decode jdk_2097_method_143_code 164 = .ok (.newarray .int, 2) := by decide +kernel
theorem own_mp_d166 : decode jdk_2097_method_143_code 166 = .ok (.astore 9, 2) := by decide +kernel
theorem own_mp_d168 : decode jdk_2097_method_143_code 168 = .ok (.aload 9, 2) := by decide +kernel
theorem own_mp_d170 : decode jdk_2097_method_143_code 170 = .ok (.iconst 0, 1) := by decide +kernel
theorem own_mp_d171 : decode jdk_2097_method_143_code 171 = .ok (.iload 8, 2) := by decide +kernel
theorem own_mp_d173 : decode jdk_2097_method_143_code 173 = .ok (.ifCond .ne 8, 3) := by decide +kernel
theorem own_mp_d176 : decode jdk_2097_method_143_code 176 = .ok (.iload 5, 2) := by decide +kernel
theorem own_mp_d178 : decode jdk_2097_method_143_code 178 = .ok (.goto 4, 3) := by decide +kernel
theorem own_mp_d182 : decode jdk_2097_method_143_code 182 = .ok (.iastore, 1) := by decide +kernel
theorem own_mp_d183 : decode jdk_2097_method_143_code 183 = .ok (.aload 9, 2) := by decide +kernel
theorem own_mp_d185 : decode jdk_2097_method_143_code 185 = .ok (.arraylength, 1) := by decide +kernel
theorem own_mp_d186 : decode jdk_2097_method_143_code 186 = .ok (.iload 4, 2) := by decide +kernel
theorem own_mp_d188 : decode jdk_2097_method_143_code 188 = .ok (.iload_n 2, 1) := by decide +kernel
theorem own_mp_d189 : decode jdk_2097_method_143_code 189 = .ok (.isub, 1) := by decide +kernel
theorem own_mp_d190 : decode jdk_2097_method_143_code 190 = .ok (.iconst 2, 1) := by decide +kernel
theorem own_mp_d191 : decode jdk_2097_method_143_code 191 = .ok (.ishr, 1) := by decide +kernel
theorem own_mp_d192 : decode jdk_2097_method_143_code 192 = .ok (.isub, 1) := by decide +kernel
theorem own_mp_d193 : decode jdk_2097_method_143_code 193 = .ok (.istore 10, 2) := by decide +kernel
theorem own_mp_d195 : decode jdk_2097_method_143_code 195 = .ok (.iload 10, 2) := by decide +kernel
theorem own_mp_d197 : decode jdk_2097_method_143_code 197 = .ok (.iconst 1, 1) := by decide +kernel
theorem own_mp_d198 : decode jdk_2097_method_143_code 198 = .ok (.if_icmp .le 12, 3) := by decide +kernel
theorem own_mp_d210 : decode jdk_2097_method_143_code 210 = .ok (.iload_n 2, 1) := by decide +kernel
theorem own_mp_d211 : decode jdk_2097_method_143_code 211 = .ok (.iload 4, 2) := by decide +kernel
theorem own_mp_d213 : decode jdk_2097_method_143_code 213 = .ok (.if_icmp .ge 62, 3) := by decide +kernel
theorem own_mp_d275 : decode jdk_2097_method_143_code 275 = .ok (.iinc 10 (-1), 3) := by decide +kernel
theorem own_mp_d278 : decode jdk_2097_method_143_code 278 = .ok (.iload 10, 2) := by decide +kernel
theorem own_mp_d280 : decode jdk_2097_method_143_code 280 = .ok (.ifCond .lt 14, 3) := by decide +kernel
theorem own_mp_d283 : decode jdk_2097_method_143_code 283 = .ok (.aload 9, 2) := by decide +kernel
theorem own_mp_d285 : decode jdk_2097_method_143_code 285 = .ok (.iload 10, 2) := by decide +kernel
theorem own_mp_d287 : decode jdk_2097_method_143_code 287 = .ok (.iaload, 1) := by decide +kernel
theorem own_mp_d288 : decode jdk_2097_method_143_code 288 = .ok (.ifCond .ne 6, 3) := by decide +kernel
theorem own_mp_d294 : decode jdk_2097_method_143_code 294 = .ok (.aload 9, 2) := by decide +kernel
theorem own_mp_d296 : decode jdk_2097_method_143_code 296 = .ok (.iload 10, 2) := by decide +kernel
theorem own_mp_d298 : decode jdk_2097_method_143_code 298 = .ok (.aload 9, 2) := by decide +kernel
theorem own_mp_d300 : decode jdk_2097_method_143_code 300 = .ok (.iload 10, 2) := by decide +kernel
theorem own_mp_d302 : decode jdk_2097_method_143_code 302 = .ok (.iaload, 1) := by decide +kernel
theorem own_mp_d303 : decode jdk_2097_method_143_code 303 = .ok (.ineg, 1) := by decide +kernel
theorem own_mp_d304 : decode jdk_2097_method_143_code 304 = .ok (.iastore, 1) := by decide +kernel
theorem own_mp_d305 : decode jdk_2097_method_143_code 305 = .ok (.iinc 10 (-1), 3) := by decide +kernel
theorem own_mp_d308 : decode jdk_2097_method_143_code 308 = .ok (.iload 10, 2) := by decide +kernel
theorem own_mp_d310 : decode jdk_2097_method_143_code 310 = .ok (.ifCond .lt 18, 3) := by decide +kernel
theorem own_mp_d328 : decode jdk_2097_method_143_code 328 = .ok (.aload 9, 2) := by decide +kernel
theorem own_mp_d330 : decode jdk_2097_method_143_code 330 = .ok (.areturn, 1) := by decide +kernel
theorem own_mp_pn : plainName "java/math/BigInteger" = true := by first | (simp [plainName, overriddenIn]; done) | decide +kernel
theorem own_mp_ef (m : MethodId) (px : Int32) (pb : Addr) : entryFrame m #[(.int px), (.ref pb), (.int (0 : Int32)), (.int (1 : Int32))] 11 = mkF m 0 #[iv px, rv pb, iv (0 : Int32), iv (1 : Int32), .unset, .unset, .unset, .unset, .unset, .unset, .unset] [] := by first | (simp [entryFrame, mkF, argsToLocals, Value.category]; done) | rfl
def own_mp_Q (Z : State) (px : Int32) (pb : Addr) (zz zm : Addr) (h0 : Heap) (n0 : Nat) (v : Option Value) (h : Heap) (L : List Loc) : Prop := ∃ b Lm, v = some (.ref b) ∧ Fr n0 L ∧ Keep h0 h [] ∧ own_Ar Z h b .int Lm ∧ Lm.length ≤ 1
set_option maxRecDepth 65536 in
set_option maxHeartbeats 40000000 in
theorem own_mp (l : Launch) (Z : State) (a0 : Array Value) (hw : ∀ d ∈ tables_1, d.before a0 Z = true) (ws : List Jvm.Cond) (px : Int32) (pb : Addr) (zz zm : Addr) (h0 : Heap) (n0 : Nat) (Z0 : n0 ≤ h0.size) (hp : px < (0 : Int32)) (ZS : Sta Z h0 "java/math/BigInteger" "ZERO" "Ljava/math/BigInteger;" (.ref zz)) (ZE : Exa Z h0 zz "java/math/BigInteger") (ZF : Fld Z h0 zz "java/math/BigInteger" "mag" "[I" (.ref zm)) (ZV : own_Ar Z h0 zm .int []) :
    MetFree l own_y7 (head1 (Jvm.Cond.code own_y7 jdk_2097_method_143_code 11 (some (.array .int)) :: ws) ({ frames := 0, cells := 1, slots := 1, locals := 0 } : Room)) (fun a U => a = #[(.int px), (.ref pb), (.int (0 : Int32)), (.int (1 : Int32))] ∧ Z.Warmed39 U.vm ∧ U.heap = h0) (fun _ _ _ _ _ => True) (fun _ U o U' => ∃ v L, o = .returned v ∧ (own_mp_Q Z px pb zz zm h0 n0) v U'.heap L ∧ FrameEnd U o U' L ({ frames := 0, cells := 1, slots := 1, locals := 0 } : Room).cells ({ frames := 0, cells := 1, slots := 1, locals := 0 } : Room).slots) := by
  refine MetFree.of_bodySF (plainFor_of_name own_mp_pn) hisR ?_
  intro p e s m args below meth c s₁ Bd hml0 hP hK
  obtain ⟨rfl, hZ, hh⟩ := hP
  have hx := Bd.exec
  have hby := Bd.bytes
  have hml : c.maxLocals = 11 := hml0
  have hown : s.vm.findClass "java/math/BigInteger" = some m.cls := findClass_of_methodNamed Bd.named
  have hnm := (name_of_methodNamed Bd.named Bd.method).1
  have hlk : meth.locks = false := Bd.notSynchronized
  have X0 : Stand p l e ({ frames := 0, cells := 1, slots := 1, locals := 0 } : Room) s m #[(.int px), (.ref pb), (.int (0 : Int32)), (.int (1 : Int32))] below meth c s₁ [] 0 0 := Stand.of_body Bd
  have e0 : s₁.heap = h0 := by rw [← hh, Bd.state]; rfl
  have N0 := Fr.nil n0
  have w_113 := hw _ (List.mem_of_getElem? (l := tables_1) (i := 113) rfl)
  show own_G p.tables e below (fun o U' => ∃ v L, o = .returned v ∧ (own_mp_Q Z px pb zz zm h0 n0) v U'.heap L ∧ FrameEnd s o U' L ({ frames := 0, cells := 1, slots := 1, locals := 0 } : Room).cells ({ frames := 0, cells := 1, slots := 1, locals := 0 } : Room).slots) (s₁.setTop (entryFrame m #[(.int px), (.ref pb), (.int (0 : Int32)), (.int (1 : Int32))] 11))
  refine own_go (B := s₁.setTop (mkF m 0 #[iv px, rv pb, iv (0 : Int32), iv (1 : Int32), .unset, .unset, .unset, .unset, .unset, .unset, .unset] [])) (fun t k => castTop (own_mp_ef m px pb) k) ?_
  have K0 := Keep.refl h0 []
  refine own_go (B := (s₁.setTop (mkF m 1 #[iv px, rv pb, iv (0 : Int32), iv (1 : Int32), .unset, .unset, .unset, .unset, .unset, .unset, .unset] [(.int (0 : Int32))]))) (fun t k => XS.iloadN X0.here hx rfl (hb hby own_mp_d0) rfl k) ?_
  refine own_go (B := (s₁.setTop (mkF m 2 #[iv px, rv pb, iv (0 : Int32), iv (1 : Int32), .unset, .unset, .unset, .unset, .unset, .unset, .unset] [(.int (1 : Int32)), (.int (0 : Int32))]))) (fun t k => XS.iloadN X0.here hx rfl (hb hby own_mp_d1) rfl k) ?_
  refine own_go (B := (s₁.setTop (mkF m 3 #[iv px, rv pb, iv (0 : Int32), iv (1 : Int32), .unset, .unset, .unset, .unset, .unset, .unset, .unset] [(.int ((0 : Int32) + (1 : Int32)))]))) (fun t k => XS.iadd (x := (0 : Int32)) (y := (1 : Int32)) X0.here hx rfl (hb hby own_mp_d2) rfl k) ?_
  rw [show ((0 : Int32) + (1 : Int32)) = (1 : Int32) from by decide]
  refine own_go (B := (s₁.setTop (mkF m 5 #[iv px, rv pb, iv (0 : Int32), iv (1 : Int32), iv (1 : Int32), .unset, .unset, .unset, .unset, .unset, .unset] []))) (fun t k => XS.istore X0.here hx rfl (hb hby own_mp_d3) rfl (l' := #[iv px, rv pb, iv (0 : Int32), iv (1 : Int32), iv (1 : Int32), .unset, .unset, .unset, .unset, .unset, .unset]) rfl k) ?_
  refine own_go (B := (s₁.setTop (mkF m 8 #[iv px, rv pb, iv (1 : Int32), iv (1 : Int32), iv (1 : Int32), .unset, .unset, .unset, .unset, .unset, .unset] []))) (fun t k => XS.iinc X0.here hx rfl (hb hby own_mp_d5) rfl (l' := #[iv px, rv pb, iv (1 : Int32), iv (1 : Int32), iv (1 : Int32), .unset, .unset, .unset, .unset, .unset, .unset]) rfl k) ?_
  refine own_go (B := (s₁.setTop (mkF m 9 #[iv px, rv pb, iv (1 : Int32), iv (1 : Int32), iv (1 : Int32), .unset, .unset, .unset, .unset, .unset, .unset] [(.int px)]))) (fun t k => XS.iloadN X0.here hx rfl (hb hby own_mp_d8) rfl k) ?_
  refine own_go (B := (s₁.setTop (mkF m 10 #[iv px, rv pb, iv (1 : Int32), iv (1 : Int32), iv (1 : Int32), .unset, .unset, .unset, .unset, .unset, .unset] [(.int (-1 : Int32)), (.int px)]))) (fun t k => own_iconst (v := (-1 : Int32)) X0.here hx rfl (hb hby own_mp_d9) (by decide) k) ?_
  refine own_icmp X0 hx (hb hby own_mp_d10) (pc' := 29) (pn := 13) (by decide) (by decide) rfl (fun (hc10 : ¬ px = (-1 : Int32)) => ?_) (fun (hc10 : px = (-1 : Int32)) => ?_)
  · refine own_go (B := (s₁.setTop (mkF m 32 #[iv px, rv pb, iv (1 : Int32), iv (1 : Int32), iv (1 : Int32), .unset, .unset, .unset, .unset, .unset, .unset] [(.int (-256 : Int32))]))) (fun t k => own_sipush (v := (-256 : Int32)) X0.here hx rfl (hb hby own_mp_d29) (by decide) k) ?_
    refine own_go (B := (s₁.setTop (mkF m 33 #[iv px, rv pb, iv (1 : Int32), iv (1 : Int32), iv (1 : Int32), .unset, .unset, .unset, .unset, .unset, .unset] [(.int px), (.int (-256 : Int32))]))) (fun t k => XS.iloadN X0.here hx rfl (hb hby own_mp_d32) rfl k) ?_
    refine own_go (B := (s₁.setTop (mkF m 36 #[iv px, rv pb, iv (1 : Int32), iv (1 : Int32), iv (1 : Int32), .unset, .unset, .unset, .unset, .unset, .unset] [(.int (255 : Int32)), (.int px), (.int (-256 : Int32))]))) (fun t k => own_sipush (v := (255 : Int32)) X0.here hx rfl (hb hby own_mp_d33) (by decide) k) ?_
    refine own_go (B := (s₁.setTop (mkF m 37 #[iv px, rv pb, iv (1 : Int32), iv (1 : Int32), iv (1 : Int32), .unset, .unset, .unset, .unset, .unset, .unset] [(.int (px &&& (255 : Int32))), (.int (-256 : Int32))]))) (fun t k => XS.iand (x := px) (y := (255 : Int32)) X0.here hx rfl (hb hby own_mp_d36) rfl k) ?_
    refine own_go (B := (s₁.setTop (mkF m 38 #[iv px, rv pb, iv (1 : Int32), iv (1 : Int32), iv (1 : Int32), .unset, .unset, .unset, .unset, .unset, .unset] [(.int ((-256 : Int32) ||| (px &&& (255 : Int32))))]))) (fun t k => XS.ior (x := (-256 : Int32)) (y := (px &&& (255 : Int32))) X0.here hx rfl (hb hby own_mp_d37) rfl k) ?_
    obtain ⟨z38, hz38⟩ : ∃ z : Int32, z = ((-256 : Int32) ||| (px &&& (255 : Int32))) := ⟨_, rfl⟩
    rw [← hz38]
    refine own_go (B := (s₁.setTop (mkF m 40 #[iv px, rv pb, iv (1 : Int32), iv (1 : Int32), iv (1 : Int32), iv z38, .unset, .unset, .unset, .unset, .unset] []))) (fun t k => XS.istore X0.here hx rfl (hb hby own_mp_d38) rfl (l' := #[iv px, rv pb, iv (1 : Int32), iv (1 : Int32), iv (1 : Int32), iv z38, .unset, .unset, .unset, .unset, .unset]) rfl k) ?_
    refine own_go (B := (s₁.setTop (mkF m 42 #[iv px, rv pb, iv (1 : Int32), iv (1 : Int32), iv (1 : Int32), iv z38, .unset, .unset, .unset, .unset, .unset] [(.int (1 : Int32))]))) (fun t k => XS.iload X0.here hx rfl (hb hby own_mp_d40) rfl k) ?_
    refine own_go (B := (s₁.setTop (mkF m 43 #[iv px, rv pb, iv (1 : Int32), iv (1 : Int32), iv (1 : Int32), iv z38, .unset, .unset, .unset, .unset, .unset] [(.int (1 : Int32)), (.int (1 : Int32))]))) (fun t k => XS.iloadN X0.here hx rfl (hb hby own_mp_d42) rfl k) ?_
    refine own_go (B := (s₁.setTop (mkF m 44 #[iv px, rv pb, iv (1 : Int32), iv (1 : Int32), iv (1 : Int32), iv z38, .unset, .unset, .unset, .unset, .unset] [(.int ((1 : Int32) - (1 : Int32)))]))) (fun t k => XS.isub (x := (1 : Int32)) (y := (1 : Int32)) X0.here hx rfl (hb hby own_mp_d43) rfl k) ?_
    rw [show ((1 : Int32) - (1 : Int32)) = (0 : Int32) from by decide]
    refine own_go (B := (s₁.setTop (mkF m 45 #[iv px, rv pb, iv (1 : Int32), iv (1 : Int32), iv (1 : Int32), iv z38, .unset, .unset, .unset, .unset, .unset] [(.int (3 : Int32)), (.int (0 : Int32))]))) (fun t k => own_iconst (v := (3 : Int32)) X0.here hx rfl (hb hby own_mp_d44) (by decide) k) ?_
    refine own_go (B := (s₁.setTop (mkF m 46 #[iv px, rv pb, iv (1 : Int32), iv (1 : Int32), iv (1 : Int32), iv z38, .unset, .unset, .unset, .unset, .unset] [(.int ((0 : Int32) &&& (3 : Int32)))]))) (fun t k => XS.iand (x := (0 : Int32)) (y := (3 : Int32)) X0.here hx rfl (hb hby own_mp_d45) rfl k) ?_
    rw [show ((0 : Int32) &&& (3 : Int32)) = (0 : Int32) from by decide]
    have hc46 : (0 : Int32) = (0 : Int32) := (by decide)
    refine own_ifY X0 hx (hb hby own_mp_d46) (pc' := 72) (by decide) (by decide) hc46 ?_
    refine own_go (B := (s₁.setTop (mkF m 73 #[iv px, rv pb, iv (1 : Int32), iv (1 : Int32), iv (1 : Int32), iv z38, .unset, .unset, .unset, .unset, .unset] [(.int (1 : Int32))]))) (fun t k => XS.iloadN X0.here hx rfl (hb hby own_mp_d72) rfl k) ?_
    refine own_go (B := (s₁.setTop (mkF m 75 #[iv px, rv pb, iv (1 : Int32), iv (1 : Int32), iv (1 : Int32), iv z38, iv (1 : Int32), .unset, .unset, .unset, .unset] []))) (fun t k => XS.istore X0.here hx rfl (hb hby own_mp_d73) rfl (l' := #[iv px, rv pb, iv (1 : Int32), iv (1 : Int32), iv (1 : Int32), iv z38, iv (1 : Int32), .unset, .unset, .unset, .unset]) rfl k) ?_
    refine own_go (B := (s₁.setTop (mkF m 76 #[iv px, rv pb, iv (1 : Int32), iv (1 : Int32), iv (1 : Int32), iv z38, iv (1 : Int32), .unset, .unset, .unset, .unset] [(.int px)]))) (fun t k => XS.iloadN X0.here hx rfl (hb hby own_mp_d75) rfl k) ?_
    have hc76 : ¬ px = (0 : Int32) := (own_ltne hp)
    refine own_ifY X0 hx (hb hby own_mp_d76) (pc' := 95) (by decide) (by decide) hc76 ?_
    refine own_go (B := (s₁.setTop (mkF m 96 #[iv px, rv pb, iv (1 : Int32), iv (1 : Int32), iv (1 : Int32), iv z38, iv (1 : Int32), .unset, .unset, .unset, .unset] [(.int px)]))) (fun t k => XS.iloadN X0.here hx rfl (hb hby own_mp_d95) rfl k) ?_
    refine own_go (B := (s₁.setTop (mkF m 99 #[iv px, rv pb, iv (1 : Int32), iv (1 : Int32), iv (1 : Int32), iv z38, iv (1 : Int32), .unset, .unset, .unset, .unset] [(.int (255 : Int32)), (.int px)]))) (fun t k => own_sipush (v := (255 : Int32)) X0.here hx rfl (hb hby own_mp_d96) (by decide) k) ?_
    refine own_go (B := (s₁.setTop (mkF m 100 #[iv px, rv pb, iv (1 : Int32), iv (1 : Int32), iv (1 : Int32), iv z38, iv (1 : Int32), .unset, .unset, .unset, .unset] [(.int (px &&& (255 : Int32)))]))) (fun t k => XS.iand (x := px) (y := (255 : Int32)) X0.here hx rfl (hb hby own_mp_d99) rfl k) ?_
    obtain ⟨z100, hz100⟩ : ∃ z : Int32, z = (px &&& (255 : Int32)) := ⟨_, rfl⟩
    rw [← hz100]
    refine own_go (B := (s₁.setTop (mkF m 102 #[iv px, rv pb, iv (1 : Int32), iv (1 : Int32), iv (1 : Int32), iv z38, iv (1 : Int32), iv z100, .unset, .unset, .unset] []))) (fun t k => XS.istore X0.here hx rfl (hb hby own_mp_d100) rfl (l' := #[iv px, rv pb, iv (1 : Int32), iv (1 : Int32), iv (1 : Int32), iv z38, iv (1 : Int32), iv z100, .unset, .unset, .unset]) rfl k) ?_
    refine own_go (B := (s₁.setTop (mkF m 104 #[iv px, rv pb, iv (1 : Int32), iv (1 : Int32), iv (1 : Int32), iv z38, iv (1 : Int32), iv z100, .unset, .unset, .unset] [(.int (1 : Int32))]))) (fun t k => XS.iload X0.here hx rfl (hb hby own_mp_d102) rfl k) ?_
    refine own_go (B := (s₁.setTop (mkF m 105 #[iv px, rv pb, iv (1 : Int32), iv (1 : Int32), iv (1 : Int32), iv z38, iv (1 : Int32), iv z100, .unset, .unset, .unset] [(.int (1 : Int32)), (.int (1 : Int32))]))) (fun t k => XS.iloadN X0.here hx rfl (hb hby own_mp_d104) rfl k) ?_
    refine own_go (B := (s₁.setTop (mkF m 106 #[iv px, rv pb, iv (1 : Int32), iv (1 : Int32), iv (1 : Int32), iv z38, iv (1 : Int32), iv z100, .unset, .unset, .unset] [(.int ((1 : Int32) - (1 : Int32)))]))) (fun t k => XS.isub (x := (1 : Int32)) (y := (1 : Int32)) X0.here hx rfl (hb hby own_mp_d105) rfl k) ?_
    rw [show ((1 : Int32) - (1 : Int32)) = (0 : Int32) from by decide]
    refine own_go (B := (s₁.setTop (mkF m 107 #[iv px, rv pb, iv (1 : Int32), iv (1 : Int32), iv (1 : Int32), iv z38, iv (1 : Int32), iv z100, .unset, .unset, .unset] [(.int (3 : Int32)), (.int (0 : Int32))]))) (fun t k => own_iconst (v := (3 : Int32)) X0.here hx rfl (hb hby own_mp_d106) (by decide) k) ?_
    refine own_go (B := (s₁.setTop (mkF m 108 #[iv px, rv pb, iv (1 : Int32), iv (1 : Int32), iv (1 : Int32), iv z38, iv (1 : Int32), iv z100, .unset, .unset, .unset] [(.int ((0 : Int32) &&& (3 : Int32)))]))) (fun t k => XS.iand (x := (0 : Int32)) (y := (3 : Int32)) X0.here hx rfl (hb hby own_mp_d107) rfl k) ?_
    rw [show ((0 : Int32) &&& (3 : Int32)) = (0 : Int32) from by decide]
    have hc108 : (0 : Int32) = (0 : Int32) := (by decide)
    refine own_ifY X0 hx (hb hby own_mp_d108) (pc' := 132) (by decide) (by decide) hc108 ?_
    refine own_go (B := (s₁.setTop (mkF m 134 #[iv px, rv pb, iv (1 : Int32), iv (1 : Int32), iv (1 : Int32), iv z38, iv (1 : Int32), iv z100, .unset, .unset, .unset] [(.int (1 : Int32))]))) (fun t k => XS.iload X0.here hx rfl (hb hby own_mp_d132) rfl k) ?_
    refine own_go (B := (s₁.setTop (mkF m 135 #[iv px, rv pb, iv (1 : Int32), iv (1 : Int32), iv (1 : Int32), iv z38, iv (1 : Int32), iv z100, .unset, .unset, .unset] [(.int (1 : Int32)), (.int (1 : Int32))]))) (fun t k => XS.iloadN X0.here hx rfl (hb hby own_mp_d134) rfl k) ?_
    refine own_go (B := (s₁.setTop (mkF m 136 #[iv px, rv pb, iv (1 : Int32), iv (1 : Int32), iv (1 : Int32), iv z38, iv (1 : Int32), iv z100, .unset, .unset, .unset] [(.int ((1 : Int32) - (1 : Int32)))]))) (fun t k => XS.isub (x := (1 : Int32)) (y := (1 : Int32)) X0.here hx rfl (hb hby own_mp_d135) rfl k) ?_
    rw [show ((1 : Int32) - (1 : Int32)) = (0 : Int32) from by decide]
    refine own_go (B := (s₁.setTop (mkF m 138 #[iv px, rv pb, iv (1 : Int32), iv (1 : Int32), iv (1 : Int32), iv z38, iv (1 : Int32), iv z100, .unset, .unset, .unset] [(.int z38), (.int (0 : Int32))]))) (fun t k => XS.iload X0.here hx rfl (hb hby own_mp_d136) rfl k) ?_
    refine own_go (B := (s₁.setTop (mkF m 139 #[iv px, rv pb, iv (1 : Int32), iv (1 : Int32), iv (1 : Int32), iv z38, iv (1 : Int32), iv z100, .unset, .unset, .unset] [(.int ((0 : Int32) ||| z38))]))) (fun t k => XS.ior (x := (0 : Int32)) (y := z38) X0.here hx rfl (hb hby own_mp_d138) rfl k) ?_
    refine own_go (B := (s₁.setTop (mkF m 141 #[iv px, rv pb, iv (1 : Int32), iv (1 : Int32), iv (1 : Int32), iv z38, iv (1 : Int32), iv z100, .unset, .unset, .unset] [(.int z100), (.int ((0 : Int32) ||| z38))]))) (fun t k => XS.iload X0.here hx rfl (hb hby own_mp_d139) rfl k) ?_
    refine own_go (B := (s₁.setTop (mkF m 142 #[iv px, rv pb, iv (1 : Int32), iv (1 : Int32), iv (1 : Int32), iv z38, iv (1 : Int32), iv z100, .unset, .unset, .unset] [(.int (((0 : Int32) ||| z38) ||| z100))]))) (fun t k => XS.ior (x := ((0 : Int32) ||| z38)) (y := z100) X0.here hx rfl (hb hby own_mp_d141) rfl k) ?_
    have hc142 : ¬ (((0 : Int32) ||| z38) ||| z100) = (0 : Int32) := (own_mpA hz38)
    refine own_ifY X0 hx (hb hby own_mp_d142) (pc' := 149) (by decide) (by decide) hc142 ?_
    refine own_go (B := (s₁.setTop (mkF m 150 #[iv px, rv pb, iv (1 : Int32), iv (1 : Int32), iv (1 : Int32), iv z38, iv (1 : Int32), iv z100, .unset, .unset, .unset] [(.int (0 : Int32))]))) (fun t k => own_iconst (v := (0 : Int32)) X0.here hx rfl (hb hby own_mp_d149) (by decide) k) ?_
    refine own_go (B := (s₁.setTop (mkF m 152 #[iv px, rv pb, iv (1 : Int32), iv (1 : Int32), iv (1 : Int32), iv z38, iv (1 : Int32), iv z100, iv (0 : Int32), .unset, .unset] []))) (fun t k => XS.istore X0.here hx rfl (hb hby own_mp_d150) rfl (l' := #[iv px, rv pb, iv (1 : Int32), iv (1 : Int32), iv (1 : Int32), iv z38, iv (1 : Int32), iv z100, iv (0 : Int32), .unset, .unset]) rfl k) ?_
    refine own_go (B := (s₁.setTop (mkF m 154 #[iv px, rv pb, iv (1 : Int32), iv (1 : Int32), iv (1 : Int32), iv z38, iv (1 : Int32), iv z100, iv (0 : Int32), .unset, .unset] [(.int (0 : Int32))]))) (fun t k => XS.iload X0.here hx rfl (hb hby own_mp_d152) rfl k) ?_
    refine own_go (B := (s₁.setTop (mkF m 155 #[iv px, rv pb, iv (1 : Int32), iv (1 : Int32), iv (1 : Int32), iv z38, iv (1 : Int32), iv z100, iv (0 : Int32), .unset, .unset] [(.int (1 : Int32)), (.int (0 : Int32))]))) (fun t k => own_iconst (v := (1 : Int32)) X0.here hx rfl (hb hby own_mp_d154) (by decide) k) ?_
    refine own_go (B := (s₁.setTop (mkF m 156 #[iv px, rv pb, iv (1 : Int32), iv (1 : Int32), iv (1 : Int32), iv z38, iv (1 : Int32), iv z100, iv (0 : Int32), .unset, .unset] [(.int ((0 : Int32) + (1 : Int32)))]))) (fun t k => XS.iadd (x := (0 : Int32)) (y := (1 : Int32)) X0.here hx rfl (hb hby own_mp_d155) rfl k) ?_
    rw [show ((0 : Int32) + (1 : Int32)) = (1 : Int32) from by decide]
    refine own_go (B := (s₁.setTop (mkF m 158 #[iv px, rv pb, iv (1 : Int32), iv (1 : Int32), iv (1 : Int32), iv z38, iv (1 : Int32), iv z100, iv (0 : Int32), .unset, .unset] [(.int (1 : Int32)), (.int (1 : Int32))]))) (fun t k => XS.iload X0.here hx rfl (hb hby own_mp_d156) rfl k) ?_
    refine own_go (B := (s₁.setTop (mkF m 160 #[iv px, rv pb, iv (1 : Int32), iv (1 : Int32), iv (1 : Int32), iv z38, iv (1 : Int32), iv z100, iv (0 : Int32), .unset, .unset] [(.int (1 : Int32)), (.int (1 : Int32)), (.int (1 : Int32))]))) (fun t k => XS.iload X0.here hx rfl (hb hby own_mp_d158) rfl k) ?_
    refine own_go (B := (s₁.setTop (mkF m 161 #[iv px, rv pb, iv (1 : Int32), iv (1 : Int32), iv (1 : Int32), iv z38, iv (1 : Int32), iv z100, iv (0 : Int32), .unset, .unset] [(.int ((1 : Int32) - (1 : Int32))), (.int (1 : Int32))]))) (fun t k => XS.isub (x := (1 : Int32)) (y := (1 : Int32)) X0.here hx rfl (hb hby own_mp_d160) rfl k) ?_
    rw [show ((1 : Int32) - (1 : Int32)) = (0 : Int32) from by decide]
    refine own_go (B := (s₁.setTop (mkF m 162 #[iv px, rv pb, iv (1 : Int32), iv (1 : Int32), iv (1 : Int32), iv z38, iv (1 : Int32), iv z100, iv (0 : Int32), .unset, .unset] [(.int (2 : Int32)), (.int (0 : Int32)), (.int (1 : Int32))]))) (fun t k => own_iconst (v := (2 : Int32)) X0.here hx rfl (hb hby own_mp_d161) (by decide) k) ?_
    refine own_go (B := (s₁.setTop (mkF m 163 #[iv px, rv pb, iv (1 : Int32), iv (1 : Int32), iv (1 : Int32), iv z38, iv (1 : Int32), iv z100, iv (0 : Int32), .unset, .unset] [(.int ((0 : Int32) >>> ((2 : Int32) &&& 31))), (.int (1 : Int32))]))) (fun t k => XS.ishr (x := (0 : Int32)) (y := (2 : Int32)) X0.here hx rfl (hb hby own_mp_d162) rfl k) ?_
    rw [show ((0 : Int32) >>> ((2 : Int32) &&& 31)) = (0 : Int32) from by decide]
    refine own_go (B := (s₁.setTop (mkF m 164 #[iv px, rv pb, iv (1 : Int32), iv (1 : Int32), iv (1 : Int32), iv z38, iv (1 : Int32), iv z100, iv (0 : Int32), .unset, .unset] [(.int ((1 : Int32) + (0 : Int32)))]))) (fun t k => XS.iadd (x := (1 : Int32)) (y := (0 : Int32)) X0.here hx rfl (hb hby own_mp_d163) rfl k) ?_
    rw [show ((1 : Int32) + (0 : Int32)) = (1 : Int32) from by decide]
    obtain ⟨T1, h1, c1, X1, e1, E1, A1, st1⟩ := newP X0 hx hZ (aty := .int) w_113 e0 (g := (mkF m 164 #[iv px, rv pb, iv (1 : Int32), iv (1 : Int32), iv (1 : Int32), iv z38, iv (1 : Int32), iv z100, iv (0 : Int32), .unset, .unset] [(.int (1 : Int32))])) rfl (hb hby own_mp_d164) rfl (by decide) (cap := 1) (by decide) (by decide) (own_b rfl) (own_b rfl)
    obtain ⟨a1, ga1⟩ : ∃ z, z = h0.size := ⟨_, rfl⟩
    rw [← ga1] at A1 st1
    refine own_go (B := (T1.setTop (mkF m 166 #[iv px, rv pb, iv (1 : Int32), iv (1 : Int32), iv (1 : Int32), iv z38, iv (1 : Int32), iv z100, iv (0 : Int32), .unset, .unset] [(.ref a1)]))) st1 ?_
    have Z2 : n0 ≤ h1.size := Nat.le_trans Z0 E1.1
    have K3 := Keep.ext K0 E1
    have F4 := Sta.ext E1 ZS
    have F5 := Exa.ext E1 ZE
    have F6 := Fld.ext E1 ZF
    have V7 := own_Ar_ext ZV E1
    have gn1 : n0 ≤ a1 := Nat.le_trans Z0 (Nat.le_of_eq ga1.symm)
    have ne1_zz : a1 ≠ zz := fun q => absurd (ZE.lt) (by rw [← q, ga1]; exact Nat.lt_irrefl _)
    have ne1_zm : a1 ≠ zm := fun q => absurd (own_Ar_lt ZV) (by rw [← q, ga1]; exact Nat.lt_irrefl _)
    have V1 : own_Ar Z h1 a1 .int [(.int (0 : Int32))] := own_Ar_new A1 (N := 1) (by decide) rfl
    refine own_go (B := (T1.setTop (mkF m 168 #[iv px, rv pb, iv (1 : Int32), iv (1 : Int32), iv (1 : Int32), iv z38, iv (1 : Int32), iv z100, iv (0 : Int32), rv a1, .unset] []))) (fun t k => XS.astore X1.here hx rfl (hb hby own_mp_d166) rfl rfl (l' := #[iv px, rv pb, iv (1 : Int32), iv (1 : Int32), iv (1 : Int32), iv z38, iv (1 : Int32), iv z100, iv (0 : Int32), rv a1, .unset]) rfl k) ?_
    refine own_go (B := (T1.setTop (mkF m 170 #[iv px, rv pb, iv (1 : Int32), iv (1 : Int32), iv (1 : Int32), iv z38, iv (1 : Int32), iv z100, iv (0 : Int32), rv a1, .unset] [(.ref a1)]))) (fun t k => XS.aload X1.here hx rfl (hb hby own_mp_d168) rfl rfl k) ?_
    refine own_go (B := (T1.setTop (mkF m 171 #[iv px, rv pb, iv (1 : Int32), iv (1 : Int32), iv (1 : Int32), iv z38, iv (1 : Int32), iv z100, iv (0 : Int32), rv a1, .unset] [(.int (0 : Int32)), (.ref a1)]))) (fun t k => own_iconst (v := (0 : Int32)) X1.here hx rfl (hb hby own_mp_d170) (by decide) k) ?_
    refine own_go (B := (T1.setTop (mkF m 173 #[iv px, rv pb, iv (1 : Int32), iv (1 : Int32), iv (1 : Int32), iv z38, iv (1 : Int32), iv z100, iv (0 : Int32), rv a1, .unset] [(.int (0 : Int32)), (.int (0 : Int32)), (.ref a1)]))) (fun t k => XS.iload X1.here hx rfl (hb hby own_mp_d171) rfl k) ?_
    have hc173 : (0 : Int32) = (0 : Int32) := (by decide)
    refine own_ifN X1 hx (hb hby own_mp_d173) (pn := 176) rfl hc173 ?_
    refine own_go (B := (T1.setTop (mkF m 178 #[iv px, rv pb, iv (1 : Int32), iv (1 : Int32), iv (1 : Int32), iv z38, iv (1 : Int32), iv z100, iv (0 : Int32), rv a1, .unset] [(.int z38), (.int (0 : Int32)), (.ref a1)]))) (fun t k => XS.iload X1.here hx rfl (hb hby own_mp_d176) rfl k) ?_
    refine own_go (B := (T1.setTop (mkF m 182 #[iv px, rv pb, iv (1 : Int32), iv (1 : Int32), iv (1 : Int32), iv z38, iv (1 : Int32), iv z100, iv (0 : Int32), rv a1, .unset] [(.int z38), (.int (0 : Int32)), (.ref a1)]))) (fun t k => XS.goto X1.here hx rfl (pc0 := 178) (pc' := 182) rfl (hb hby own_mp_d178) (by decide) (by decide) k) ?_
    obtain ⟨T8, h8, X8, e8, W8, V8, st8⟩ := own_stI X1 hx hZ e1 V1 (i := 0) (by decide) (by decide) (Nat.lt_of_lt_of_eq (by decide : 0 < 1) rfl) (L' := [(.int z38)]) rfl (g := (mkF m 182 #[iv px, rv pb, iv (1 : Int32), iv (1 : Int32), iv (1 : Int32), iv z38, iv (1 : Int32), iv z100, iv (0 : Int32), rv a1, .unset] [(.int z38), (.int (0 : Int32)), (.ref a1)])) rfl rfl (hb hby own_mp_d182)
    refine own_go (B := (T8.setTop (mkF m 183 #[iv px, rv pb, iv (1 : Int32), iv (1 : Int32), iv (1 : Int32), iv z38, iv (1 : Int32), iv z100, iv (0 : Int32), rv a1, .unset] []))) st8 ?_
    obtain ⟨L8, X8, N8⟩ := own_abs X8 (Fr.snoc X8 N0 gn1)
    have F9 : n0 ≤ h8.size := by rw [W8.size]; exact Z2
    have F10 := Keep.wr K3 W8 (Or.inr (Nat.le_trans K0.1 (Nat.le_of_eq ga1.symm)))
    have F11 := Sta.wr W8 F4
    have F12 := Exa.wr W8 F5
    have F13 := Fld.other W8 F6 (Or.inl (Ne.symm ne1_zz))
    have F14 := own_Ar_other V7 W8 (Ne.symm ne1_zm)
    refine own_go (B := (T8.setTop (mkF m 185 #[iv px, rv pb, iv (1 : Int32), iv (1 : Int32), iv (1 : Int32), iv z38, iv (1 : Int32), iv z100, iv (0 : Int32), rv a1, .unset] [(.ref a1)]))) (fun t k => XS.aload X8.here hx rfl (hb hby own_mp_d183) rfl rfl k) ?_
    refine own_go (B := (T8.setTop (mkF m 186 #[iv px, rv pb, iv (1 : Int32), iv (1 : Int32), iv (1 : Int32), iv z38, iv (1 : Int32), iv z100, iv (0 : Int32), rv a1, .unset] [(.int (1 : Int32))]))) (own_alen X8 hx hZ e8 V8 (n := (1 : Int32)) (own_lenL (n := 1) rfl (by decide)) (g := (mkF m 185 #[iv px, rv pb, iv (1 : Int32), iv (1 : Int32), iv (1 : Int32), iv z38, iv (1 : Int32), iv z100, iv (0 : Int32), rv a1, .unset] [(.ref a1)])) rfl rfl (hb hby own_mp_d185)) ?_
    refine own_go (B := (T8.setTop (mkF m 188 #[iv px, rv pb, iv (1 : Int32), iv (1 : Int32), iv (1 : Int32), iv z38, iv (1 : Int32), iv z100, iv (0 : Int32), rv a1, .unset] [(.int (1 : Int32)), (.int (1 : Int32))]))) (fun t k => XS.iload X8.here hx rfl (hb hby own_mp_d186) rfl k) ?_
    refine own_go (B := (T8.setTop (mkF m 189 #[iv px, rv pb, iv (1 : Int32), iv (1 : Int32), iv (1 : Int32), iv z38, iv (1 : Int32), iv z100, iv (0 : Int32), rv a1, .unset] [(.int (1 : Int32)), (.int (1 : Int32)), (.int (1 : Int32))]))) (fun t k => XS.iloadN X8.here hx rfl (hb hby own_mp_d188) rfl k) ?_
    refine own_go (B := (T8.setTop (mkF m 190 #[iv px, rv pb, iv (1 : Int32), iv (1 : Int32), iv (1 : Int32), iv z38, iv (1 : Int32), iv z100, iv (0 : Int32), rv a1, .unset] [(.int ((1 : Int32) - (1 : Int32))), (.int (1 : Int32))]))) (fun t k => XS.isub (x := (1 : Int32)) (y := (1 : Int32)) X8.here hx rfl (hb hby own_mp_d189) rfl k) ?_
    rw [show ((1 : Int32) - (1 : Int32)) = (0 : Int32) from by decide]
    refine own_go (B := (T8.setTop (mkF m 191 #[iv px, rv pb, iv (1 : Int32), iv (1 : Int32), iv (1 : Int32), iv z38, iv (1 : Int32), iv z100, iv (0 : Int32), rv a1, .unset] [(.int (2 : Int32)), (.int (0 : Int32)), (.int (1 : Int32))]))) (fun t k => own_iconst (v := (2 : Int32)) X8.here hx rfl (hb hby own_mp_d190) (by decide) k) ?_
    refine own_go (B := (T8.setTop (mkF m 192 #[iv px, rv pb, iv (1 : Int32), iv (1 : Int32), iv (1 : Int32), iv z38, iv (1 : Int32), iv z100, iv (0 : Int32), rv a1, .unset] [(.int ((0 : Int32) >>> ((2 : Int32) &&& 31))), (.int (1 : Int32))]))) (fun t k => XS.ishr (x := (0 : Int32)) (y := (2 : Int32)) X8.here hx rfl (hb hby own_mp_d191) rfl k) ?_
    rw [show ((0 : Int32) >>> ((2 : Int32) &&& 31)) = (0 : Int32) from by decide]
    refine own_go (B := (T8.setTop (mkF m 193 #[iv px, rv pb, iv (1 : Int32), iv (1 : Int32), iv (1 : Int32), iv z38, iv (1 : Int32), iv z100, iv (0 : Int32), rv a1, .unset] [(.int ((1 : Int32) - (0 : Int32)))]))) (fun t k => XS.isub (x := (1 : Int32)) (y := (0 : Int32)) X8.here hx rfl (hb hby own_mp_d192) rfl k) ?_
    rw [show ((1 : Int32) - (0 : Int32)) = (1 : Int32) from by decide]
    refine own_go (B := (T8.setTop (mkF m 195 #[iv px, rv pb, iv (1 : Int32), iv (1 : Int32), iv (1 : Int32), iv z38, iv (1 : Int32), iv z100, iv (0 : Int32), rv a1, iv (1 : Int32)] []))) (fun t k => XS.istore X8.here hx rfl (hb hby own_mp_d193) rfl (l' := #[iv px, rv pb, iv (1 : Int32), iv (1 : Int32), iv (1 : Int32), iv z38, iv (1 : Int32), iv z100, iv (0 : Int32), rv a1, iv (1 : Int32)]) rfl k) ?_
    refine own_go (B := (T8.setTop (mkF m 197 #[iv px, rv pb, iv (1 : Int32), iv (1 : Int32), iv (1 : Int32), iv z38, iv (1 : Int32), iv z100, iv (0 : Int32), rv a1, iv (1 : Int32)] [(.int (1 : Int32))]))) (fun t k => XS.iload X8.here hx rfl (hb hby own_mp_d195) rfl k) ?_
    refine own_go (B := (T8.setTop (mkF m 198 #[iv px, rv pb, iv (1 : Int32), iv (1 : Int32), iv (1 : Int32), iv z38, iv (1 : Int32), iv z100, iv (0 : Int32), rv a1, iv (1 : Int32)] [(.int (1 : Int32)), (.int (1 : Int32))]))) (fun t k => own_iconst (v := (1 : Int32)) X8.here hx rfl (hb hby own_mp_d197) (by decide) k) ?_
    have hc198 : ¬ (1 : Int32) < (1 : Int32) := (by decide)
    refine own_icmpY X8 hx (hb hby own_mp_d198) (pc' := 210) (by decide) (by decide) hc198 ?_
    refine own_go (B := (T8.setTop (mkF m 211 #[iv px, rv pb, iv (1 : Int32), iv (1 : Int32), iv (1 : Int32), iv z38, iv (1 : Int32), iv z100, iv (0 : Int32), rv a1, iv (1 : Int32)] [(.int (1 : Int32))]))) (fun t k => XS.iloadN X8.here hx rfl (hb hby own_mp_d210) rfl k) ?_
    refine own_go (B := (T8.setTop (mkF m 213 #[iv px, rv pb, iv (1 : Int32), iv (1 : Int32), iv (1 : Int32), iv z38, iv (1 : Int32), iv z100, iv (0 : Int32), rv a1, iv (1 : Int32)] [(.int (1 : Int32)), (.int (1 : Int32))]))) (fun t k => XS.iload X8.here hx rfl (hb hby own_mp_d211) rfl k) ?_
    have hc213 : ¬ (1 : Int32) < (1 : Int32) := (by decide)
    refine own_icmpY X8 hx (hb hby own_mp_d213) (pc' := 275) (by decide) (by decide) hc213 ?_
    refine own_go (B := (T8.setTop (mkF m 278 #[iv px, rv pb, iv (1 : Int32), iv (1 : Int32), iv (1 : Int32), iv z38, iv (1 : Int32), iv z100, iv (0 : Int32), rv a1, iv (0 : Int32)] []))) (fun t k => XS.iinc X8.here hx rfl (hb hby own_mp_d275) rfl (l' := #[iv px, rv pb, iv (1 : Int32), iv (1 : Int32), iv (1 : Int32), iv z38, iv (1 : Int32), iv z100, iv (0 : Int32), rv a1, iv (0 : Int32)]) rfl k) ?_
    refine own_go (B := (T8.setTop (mkF m 280 #[iv px, rv pb, iv (1 : Int32), iv (1 : Int32), iv (1 : Int32), iv z38, iv (1 : Int32), iv z100, iv (0 : Int32), rv a1, iv (0 : Int32)] [(.int (0 : Int32))]))) (fun t k => XS.iload X8.here hx rfl (hb hby own_mp_d278) rfl k) ?_
    have hc280 : ¬ (0 : Int32) < (0 : Int32) := (by decide)
    refine own_ifN X8 hx (hb hby own_mp_d280) (pn := 283) rfl hc280 ?_
    refine own_go (B := (T8.setTop (mkF m 285 #[iv px, rv pb, iv (1 : Int32), iv (1 : Int32), iv (1 : Int32), iv z38, iv (1 : Int32), iv z100, iv (0 : Int32), rv a1, iv (0 : Int32)] [(.ref a1)]))) (fun t k => XS.aload X8.here hx rfl (hb hby own_mp_d283) rfl rfl k) ?_
    refine own_go (B := (T8.setTop (mkF m 287 #[iv px, rv pb, iv (1 : Int32), iv (1 : Int32), iv (1 : Int32), iv z38, iv (1 : Int32), iv z100, iv (0 : Int32), rv a1, iv (0 : Int32)] [(.int (0 : Int32)), (.ref a1)]))) (fun t k => XS.iload X8.here hx rfl (hb hby own_mp_d285) rfl k) ?_
    refine own_go (B := (T8.setTop (mkF m 288 #[iv px, rv pb, iv (1 : Int32), iv (1 : Int32), iv (1 : Int32), iv z38, iv (1 : Int32), iv z100, iv (0 : Int32), rv a1, iv (0 : Int32)] [(.int z38)]))) (own_ldI X8 hx hZ e8 V8 (v := (.int z38)) (by decide) rfl (g := (mkF m 287 #[iv px, rv pb, iv (1 : Int32), iv (1 : Int32), iv (1 : Int32), iv z38, iv (1 : Int32), iv z100, iv (0 : Int32), rv a1, iv (0 : Int32)] [(.int (0 : Int32)), (.ref a1)])) rfl rfl (hb hby own_mp_d287)) ?_
    have hc288 : ¬ z38 = (0 : Int32) := (own_mpB hz38)
    refine own_ifY X8 hx (hb hby own_mp_d288) (pc' := 294) (by decide) (by decide) hc288 ?_
    refine own_go (B := (T8.setTop (mkF m 296 #[iv px, rv pb, iv (1 : Int32), iv (1 : Int32), iv (1 : Int32), iv z38, iv (1 : Int32), iv z100, iv (0 : Int32), rv a1, iv (0 : Int32)] [(.ref a1)]))) (fun t k => XS.aload X8.here hx rfl (hb hby own_mp_d294) rfl rfl k) ?_
    refine own_go (B := (T8.setTop (mkF m 298 #[iv px, rv pb, iv (1 : Int32), iv (1 : Int32), iv (1 : Int32), iv z38, iv (1 : Int32), iv z100, iv (0 : Int32), rv a1, iv (0 : Int32)] [(.int (0 : Int32)), (.ref a1)]))) (fun t k => XS.iload X8.here hx rfl (hb hby own_mp_d296) rfl k) ?_
    refine own_go (B := (T8.setTop (mkF m 300 #[iv px, rv pb, iv (1 : Int32), iv (1 : Int32), iv (1 : Int32), iv z38, iv (1 : Int32), iv z100, iv (0 : Int32), rv a1, iv (0 : Int32)] [(.ref a1), (.int (0 : Int32)), (.ref a1)]))) (fun t k => XS.aload X8.here hx rfl (hb hby own_mp_d298) rfl rfl k) ?_
    refine own_go (B := (T8.setTop (mkF m 302 #[iv px, rv pb, iv (1 : Int32), iv (1 : Int32), iv (1 : Int32), iv z38, iv (1 : Int32), iv z100, iv (0 : Int32), rv a1, iv (0 : Int32)] [(.int (0 : Int32)), (.ref a1), (.int (0 : Int32)), (.ref a1)]))) (fun t k => XS.iload X8.here hx rfl (hb hby own_mp_d300) rfl k) ?_
    refine own_go (B := (T8.setTop (mkF m 303 #[iv px, rv pb, iv (1 : Int32), iv (1 : Int32), iv (1 : Int32), iv z38, iv (1 : Int32), iv z100, iv (0 : Int32), rv a1, iv (0 : Int32)] [(.int z38), (.int (0 : Int32)), (.ref a1)]))) (own_ldI X8 hx hZ e8 V8 (v := (.int z38)) (by decide) rfl (g := (mkF m 302 #[iv px, rv pb, iv (1 : Int32), iv (1 : Int32), iv (1 : Int32), iv z38, iv (1 : Int32), iv z100, iv (0 : Int32), rv a1, iv (0 : Int32)] [(.int (0 : Int32)), (.ref a1), (.int (0 : Int32)), (.ref a1)])) rfl rfl (hb hby own_mp_d302)) ?_
    refine own_go (B := (T8.setTop (mkF m 304 #[iv px, rv pb, iv (1 : Int32), iv (1 : Int32), iv (1 : Int32), iv z38, iv (1 : Int32), iv z100, iv (0 : Int32), rv a1, iv (0 : Int32)] [(.int (-z38)), (.int (0 : Int32)), (.ref a1)]))) (fun t k => XS.ineg X8.here hx rfl (hb hby own_mp_d303) rfl k) ?_
    obtain ⟨T16, h16, X16, e16, W16, V16, st16⟩ := own_stI X8 hx hZ e8 V8 (i := 0) (by decide) (by decide) (Nat.lt_of_lt_of_eq (by decide : 0 < 1) rfl) (L' := [(.int (-z38))]) rfl (g := (mkF m 304 #[iv px, rv pb, iv (1 : Int32), iv (1 : Int32), iv (1 : Int32), iv z38, iv (1 : Int32), iv z100, iv (0 : Int32), rv a1, iv (0 : Int32)] [(.int (-z38)), (.int (0 : Int32)), (.ref a1)])) rfl rfl (hb hby own_mp_d304)
    refine own_go (B := (T16.setTop (mkF m 305 #[iv px, rv pb, iv (1 : Int32), iv (1 : Int32), iv (1 : Int32), iv z38, iv (1 : Int32), iv z100, iv (0 : Int32), rv a1, iv (0 : Int32)] []))) st16 ?_
    obtain ⟨L16, X16, N16⟩ := own_abs X16 (Fr.snoc X16 N8 gn1)
    have F17 : n0 ≤ h16.size := by rw [W16.size]; exact F9
    have F18 := Keep.wr F10 W16 (Or.inr (Nat.le_trans K0.1 (Nat.le_of_eq ga1.symm)))
    have F19 := Sta.wr W16 F11
    have F20 := Exa.wr W16 F12
    have F21 := Fld.other W16 F13 (Or.inl (Ne.symm ne1_zz))
    have F22 := own_Ar_other F14 W16 (Ne.symm ne1_zm)
    refine own_go (B := (T16.setTop (mkF m 308 #[iv px, rv pb, iv (1 : Int32), iv (1 : Int32), iv (1 : Int32), iv z38, iv (1 : Int32), iv z100, iv (0 : Int32), rv a1, iv (-1 : Int32)] []))) (fun t k => XS.iinc X16.here hx rfl (hb hby own_mp_d305) rfl (l' := #[iv px, rv pb, iv (1 : Int32), iv (1 : Int32), iv (1 : Int32), iv z38, iv (1 : Int32), iv z100, iv (0 : Int32), rv a1, iv (-1 : Int32)]) rfl k) ?_
    refine own_go (B := (T16.setTop (mkF m 310 #[iv px, rv pb, iv (1 : Int32), iv (1 : Int32), iv (1 : Int32), iv z38, iv (1 : Int32), iv z100, iv (0 : Int32), rv a1, iv (-1 : Int32)] [(.int (-1 : Int32))]))) (fun t k => XS.iload X16.here hx rfl (hb hby own_mp_d308) rfl k) ?_
    have hc310 : (-1 : Int32) < (0 : Int32) := (by decide)
    refine own_ifY X16 hx (hb hby own_mp_d310) (pc' := 328) (by decide) (by decide) hc310 ?_
    refine own_go (B := (T16.setTop (mkF m 330 #[iv px, rv pb, iv (1 : Int32), iv (1 : Int32), iv (1 : Int32), iv z38, iv (1 : Int32), iv z100, iv (0 : Int32), rv a1, iv (-1 : Int32)] [(.ref a1)]))) (fun t k => XS.aload X16.here hx rfl (hb hby own_mp_d328) rfl rfl k) ?_
    exact own_retA X16 hx hlk Bd.returns rfl rfl (hb hby own_mp_d330) (own_b rfl) (own_b rfl) (Q := (own_mp_Q Z px pb zz zm h0 n0)) (by rw [e16]; exact ⟨_, [(.int (-z38))], rfl, N16, F18, V16, by exact Nat.le_refl 1⟩)
  · refine own_go (B := (s₁.setTop (mkF m 14 #[iv px, rv pb, iv (1 : Int32), iv (1 : Int32), iv (1 : Int32), .unset, .unset, .unset, .unset, .unset, .unset] [(.int (1 : Int32))]))) (fun t k => XS.iloadN X0.here hx rfl (hb hby own_mp_d13) rfl k) ?_
    refine own_go (B := (s₁.setTop (mkF m 16 #[iv px, rv pb, iv (1 : Int32), iv (1 : Int32), iv (1 : Int32), .unset, .unset, .unset, .unset, .unset, .unset] [(.int (1 : Int32)), (.int (1 : Int32))]))) (fun t k => XS.iload X0.here hx rfl (hb hby own_mp_d14) rfl k) ?_
    have hc16 : ¬ (1 : Int32) < (1 : Int32) := (by decide)
    refine own_icmpY X0 hx (hb hby own_mp_d16) (pc' := 29) (by decide) (by decide) hc16 ?_
    refine own_go (B := (s₁.setTop (mkF m 32 #[iv px, rv pb, iv (1 : Int32), iv (1 : Int32), iv (1 : Int32), .unset, .unset, .unset, .unset, .unset, .unset] [(.int (-256 : Int32))]))) (fun t k => own_sipush (v := (-256 : Int32)) X0.here hx rfl (hb hby own_mp_d29) (by decide) k) ?_
    refine own_go (B := (s₁.setTop (mkF m 33 #[iv px, rv pb, iv (1 : Int32), iv (1 : Int32), iv (1 : Int32), .unset, .unset, .unset, .unset, .unset, .unset] [(.int px), (.int (-256 : Int32))]))) (fun t k => XS.iloadN X0.here hx rfl (hb hby own_mp_d32) rfl k) ?_
    refine own_go (B := (s₁.setTop (mkF m 36 #[iv px, rv pb, iv (1 : Int32), iv (1 : Int32), iv (1 : Int32), .unset, .unset, .unset, .unset, .unset, .unset] [(.int (255 : Int32)), (.int px), (.int (-256 : Int32))]))) (fun t k => own_sipush (v := (255 : Int32)) X0.here hx rfl (hb hby own_mp_d33) (by decide) k) ?_
    refine own_go (B := (s₁.setTop (mkF m 37 #[iv px, rv pb, iv (1 : Int32), iv (1 : Int32), iv (1 : Int32), .unset, .unset, .unset, .unset, .unset, .unset] [(.int (px &&& (255 : Int32))), (.int (-256 : Int32))]))) (fun t k => XS.iand (x := px) (y := (255 : Int32)) X0.here hx rfl (hb hby own_mp_d36) rfl k) ?_
    refine own_go (B := (s₁.setTop (mkF m 38 #[iv px, rv pb, iv (1 : Int32), iv (1 : Int32), iv (1 : Int32), .unset, .unset, .unset, .unset, .unset, .unset] [(.int ((-256 : Int32) ||| (px &&& (255 : Int32))))]))) (fun t k => XS.ior (x := (-256 : Int32)) (y := (px &&& (255 : Int32))) X0.here hx rfl (hb hby own_mp_d37) rfl k) ?_
    obtain ⟨z38, hz38⟩ : ∃ z : Int32, z = ((-256 : Int32) ||| (px &&& (255 : Int32))) := ⟨_, rfl⟩
    rw [← hz38]
    refine own_go (B := (s₁.setTop (mkF m 40 #[iv px, rv pb, iv (1 : Int32), iv (1 : Int32), iv (1 : Int32), iv z38, .unset, .unset, .unset, .unset, .unset] []))) (fun t k => XS.istore X0.here hx rfl (hb hby own_mp_d38) rfl (l' := #[iv px, rv pb, iv (1 : Int32), iv (1 : Int32), iv (1 : Int32), iv z38, .unset, .unset, .unset, .unset, .unset]) rfl k) ?_
    refine own_go (B := (s₁.setTop (mkF m 42 #[iv px, rv pb, iv (1 : Int32), iv (1 : Int32), iv (1 : Int32), iv z38, .unset, .unset, .unset, .unset, .unset] [(.int (1 : Int32))]))) (fun t k => XS.iload X0.here hx rfl (hb hby own_mp_d40) rfl k) ?_
    refine own_go (B := (s₁.setTop (mkF m 43 #[iv px, rv pb, iv (1 : Int32), iv (1 : Int32), iv (1 : Int32), iv z38, .unset, .unset, .unset, .unset, .unset] [(.int (1 : Int32)), (.int (1 : Int32))]))) (fun t k => XS.iloadN X0.here hx rfl (hb hby own_mp_d42) rfl k) ?_
    refine own_go (B := (s₁.setTop (mkF m 44 #[iv px, rv pb, iv (1 : Int32), iv (1 : Int32), iv (1 : Int32), iv z38, .unset, .unset, .unset, .unset, .unset] [(.int ((1 : Int32) - (1 : Int32)))]))) (fun t k => XS.isub (x := (1 : Int32)) (y := (1 : Int32)) X0.here hx rfl (hb hby own_mp_d43) rfl k) ?_
    rw [show ((1 : Int32) - (1 : Int32)) = (0 : Int32) from by decide]
    refine own_go (B := (s₁.setTop (mkF m 45 #[iv px, rv pb, iv (1 : Int32), iv (1 : Int32), iv (1 : Int32), iv z38, .unset, .unset, .unset, .unset, .unset] [(.int (3 : Int32)), (.int (0 : Int32))]))) (fun t k => own_iconst (v := (3 : Int32)) X0.here hx rfl (hb hby own_mp_d44) (by decide) k) ?_
    refine own_go (B := (s₁.setTop (mkF m 46 #[iv px, rv pb, iv (1 : Int32), iv (1 : Int32), iv (1 : Int32), iv z38, .unset, .unset, .unset, .unset, .unset] [(.int ((0 : Int32) &&& (3 : Int32)))]))) (fun t k => XS.iand (x := (0 : Int32)) (y := (3 : Int32)) X0.here hx rfl (hb hby own_mp_d45) rfl k) ?_
    rw [show ((0 : Int32) &&& (3 : Int32)) = (0 : Int32) from by decide]
    have hc46 : (0 : Int32) = (0 : Int32) := (by decide)
    refine own_ifY X0 hx (hb hby own_mp_d46) (pc' := 72) (by decide) (by decide) hc46 ?_
    refine own_go (B := (s₁.setTop (mkF m 73 #[iv px, rv pb, iv (1 : Int32), iv (1 : Int32), iv (1 : Int32), iv z38, .unset, .unset, .unset, .unset, .unset] [(.int (1 : Int32))]))) (fun t k => XS.iloadN X0.here hx rfl (hb hby own_mp_d72) rfl k) ?_
    refine own_go (B := (s₁.setTop (mkF m 75 #[iv px, rv pb, iv (1 : Int32), iv (1 : Int32), iv (1 : Int32), iv z38, iv (1 : Int32), .unset, .unset, .unset, .unset] []))) (fun t k => XS.istore X0.here hx rfl (hb hby own_mp_d73) rfl (l' := #[iv px, rv pb, iv (1 : Int32), iv (1 : Int32), iv (1 : Int32), iv z38, iv (1 : Int32), .unset, .unset, .unset, .unset]) rfl k) ?_
    refine own_go (B := (s₁.setTop (mkF m 76 #[iv px, rv pb, iv (1 : Int32), iv (1 : Int32), iv (1 : Int32), iv z38, iv (1 : Int32), .unset, .unset, .unset, .unset] [(.int px)]))) (fun t k => XS.iloadN X0.here hx rfl (hb hby own_mp_d75) rfl k) ?_
    have hc76 : ¬ px = (0 : Int32) := (own_ltne hp)
    refine own_ifY X0 hx (hb hby own_mp_d76) (pc' := 95) (by decide) (by decide) hc76 ?_
    refine own_go (B := (s₁.setTop (mkF m 96 #[iv px, rv pb, iv (1 : Int32), iv (1 : Int32), iv (1 : Int32), iv z38, iv (1 : Int32), .unset, .unset, .unset, .unset] [(.int px)]))) (fun t k => XS.iloadN X0.here hx rfl (hb hby own_mp_d95) rfl k) ?_
    refine own_go (B := (s₁.setTop (mkF m 99 #[iv px, rv pb, iv (1 : Int32), iv (1 : Int32), iv (1 : Int32), iv z38, iv (1 : Int32), .unset, .unset, .unset, .unset] [(.int (255 : Int32)), (.int px)]))) (fun t k => own_sipush (v := (255 : Int32)) X0.here hx rfl (hb hby own_mp_d96) (by decide) k) ?_
    refine own_go (B := (s₁.setTop (mkF m 100 #[iv px, rv pb, iv (1 : Int32), iv (1 : Int32), iv (1 : Int32), iv z38, iv (1 : Int32), .unset, .unset, .unset, .unset] [(.int (px &&& (255 : Int32)))]))) (fun t k => XS.iand (x := px) (y := (255 : Int32)) X0.here hx rfl (hb hby own_mp_d99) rfl k) ?_
    obtain ⟨z100, hz100⟩ : ∃ z : Int32, z = (px &&& (255 : Int32)) := ⟨_, rfl⟩
    rw [← hz100]
    refine own_go (B := (s₁.setTop (mkF m 102 #[iv px, rv pb, iv (1 : Int32), iv (1 : Int32), iv (1 : Int32), iv z38, iv (1 : Int32), iv z100, .unset, .unset, .unset] []))) (fun t k => XS.istore X0.here hx rfl (hb hby own_mp_d100) rfl (l' := #[iv px, rv pb, iv (1 : Int32), iv (1 : Int32), iv (1 : Int32), iv z38, iv (1 : Int32), iv z100, .unset, .unset, .unset]) rfl k) ?_
    refine own_go (B := (s₁.setTop (mkF m 104 #[iv px, rv pb, iv (1 : Int32), iv (1 : Int32), iv (1 : Int32), iv z38, iv (1 : Int32), iv z100, .unset, .unset, .unset] [(.int (1 : Int32))]))) (fun t k => XS.iload X0.here hx rfl (hb hby own_mp_d102) rfl k) ?_
    refine own_go (B := (s₁.setTop (mkF m 105 #[iv px, rv pb, iv (1 : Int32), iv (1 : Int32), iv (1 : Int32), iv z38, iv (1 : Int32), iv z100, .unset, .unset, .unset] [(.int (1 : Int32)), (.int (1 : Int32))]))) (fun t k => XS.iloadN X0.here hx rfl (hb hby own_mp_d104) rfl k) ?_
    refine own_go (B := (s₁.setTop (mkF m 106 #[iv px, rv pb, iv (1 : Int32), iv (1 : Int32), iv (1 : Int32), iv z38, iv (1 : Int32), iv z100, .unset, .unset, .unset] [(.int ((1 : Int32) - (1 : Int32)))]))) (fun t k => XS.isub (x := (1 : Int32)) (y := (1 : Int32)) X0.here hx rfl (hb hby own_mp_d105) rfl k) ?_
    rw [show ((1 : Int32) - (1 : Int32)) = (0 : Int32) from by decide]
    refine own_go (B := (s₁.setTop (mkF m 107 #[iv px, rv pb, iv (1 : Int32), iv (1 : Int32), iv (1 : Int32), iv z38, iv (1 : Int32), iv z100, .unset, .unset, .unset] [(.int (3 : Int32)), (.int (0 : Int32))]))) (fun t k => own_iconst (v := (3 : Int32)) X0.here hx rfl (hb hby own_mp_d106) (by decide) k) ?_
    refine own_go (B := (s₁.setTop (mkF m 108 #[iv px, rv pb, iv (1 : Int32), iv (1 : Int32), iv (1 : Int32), iv z38, iv (1 : Int32), iv z100, .unset, .unset, .unset] [(.int ((0 : Int32) &&& (3 : Int32)))]))) (fun t k => XS.iand (x := (0 : Int32)) (y := (3 : Int32)) X0.here hx rfl (hb hby own_mp_d107) rfl k) ?_
    rw [show ((0 : Int32) &&& (3 : Int32)) = (0 : Int32) from by decide]
    have hc108 : (0 : Int32) = (0 : Int32) := (by decide)
    refine own_ifY X0 hx (hb hby own_mp_d108) (pc' := 132) (by decide) (by decide) hc108 ?_
    refine own_go (B := (s₁.setTop (mkF m 134 #[iv px, rv pb, iv (1 : Int32), iv (1 : Int32), iv (1 : Int32), iv z38, iv (1 : Int32), iv z100, .unset, .unset, .unset] [(.int (1 : Int32))]))) (fun t k => XS.iload X0.here hx rfl (hb hby own_mp_d132) rfl k) ?_
    refine own_go (B := (s₁.setTop (mkF m 135 #[iv px, rv pb, iv (1 : Int32), iv (1 : Int32), iv (1 : Int32), iv z38, iv (1 : Int32), iv z100, .unset, .unset, .unset] [(.int (1 : Int32)), (.int (1 : Int32))]))) (fun t k => XS.iloadN X0.here hx rfl (hb hby own_mp_d134) rfl k) ?_
    refine own_go (B := (s₁.setTop (mkF m 136 #[iv px, rv pb, iv (1 : Int32), iv (1 : Int32), iv (1 : Int32), iv z38, iv (1 : Int32), iv z100, .unset, .unset, .unset] [(.int ((1 : Int32) - (1 : Int32)))]))) (fun t k => XS.isub (x := (1 : Int32)) (y := (1 : Int32)) X0.here hx rfl (hb hby own_mp_d135) rfl k) ?_
    rw [show ((1 : Int32) - (1 : Int32)) = (0 : Int32) from by decide]
    refine own_go (B := (s₁.setTop (mkF m 138 #[iv px, rv pb, iv (1 : Int32), iv (1 : Int32), iv (1 : Int32), iv z38, iv (1 : Int32), iv z100, .unset, .unset, .unset] [(.int z38), (.int (0 : Int32))]))) (fun t k => XS.iload X0.here hx rfl (hb hby own_mp_d136) rfl k) ?_
    refine own_go (B := (s₁.setTop (mkF m 139 #[iv px, rv pb, iv (1 : Int32), iv (1 : Int32), iv (1 : Int32), iv z38, iv (1 : Int32), iv z100, .unset, .unset, .unset] [(.int ((0 : Int32) ||| z38))]))) (fun t k => XS.ior (x := (0 : Int32)) (y := z38) X0.here hx rfl (hb hby own_mp_d138) rfl k) ?_
    refine own_go (B := (s₁.setTop (mkF m 141 #[iv px, rv pb, iv (1 : Int32), iv (1 : Int32), iv (1 : Int32), iv z38, iv (1 : Int32), iv z100, .unset, .unset, .unset] [(.int z100), (.int ((0 : Int32) ||| z38))]))) (fun t k => XS.iload X0.here hx rfl (hb hby own_mp_d139) rfl k) ?_
    refine own_go (B := (s₁.setTop (mkF m 142 #[iv px, rv pb, iv (1 : Int32), iv (1 : Int32), iv (1 : Int32), iv z38, iv (1 : Int32), iv z100, .unset, .unset, .unset] [(.int (((0 : Int32) ||| z38) ||| z100))]))) (fun t k => XS.ior (x := ((0 : Int32) ||| z38)) (y := z100) X0.here hx rfl (hb hby own_mp_d141) rfl k) ?_
    have hc142 : ¬ (((0 : Int32) ||| z38) ||| z100) = (0 : Int32) := (own_mpA hz38)
    refine own_ifY X0 hx (hb hby own_mp_d142) (pc' := 149) (by decide) (by decide) hc142 ?_
    refine own_go (B := (s₁.setTop (mkF m 150 #[iv px, rv pb, iv (1 : Int32), iv (1 : Int32), iv (1 : Int32), iv z38, iv (1 : Int32), iv z100, .unset, .unset, .unset] [(.int (0 : Int32))]))) (fun t k => own_iconst (v := (0 : Int32)) X0.here hx rfl (hb hby own_mp_d149) (by decide) k) ?_
    refine own_go (B := (s₁.setTop (mkF m 152 #[iv px, rv pb, iv (1 : Int32), iv (1 : Int32), iv (1 : Int32), iv z38, iv (1 : Int32), iv z100, iv (0 : Int32), .unset, .unset] []))) (fun t k => XS.istore X0.here hx rfl (hb hby own_mp_d150) rfl (l' := #[iv px, rv pb, iv (1 : Int32), iv (1 : Int32), iv (1 : Int32), iv z38, iv (1 : Int32), iv z100, iv (0 : Int32), .unset, .unset]) rfl k) ?_
    refine own_go (B := (s₁.setTop (mkF m 154 #[iv px, rv pb, iv (1 : Int32), iv (1 : Int32), iv (1 : Int32), iv z38, iv (1 : Int32), iv z100, iv (0 : Int32), .unset, .unset] [(.int (0 : Int32))]))) (fun t k => XS.iload X0.here hx rfl (hb hby own_mp_d152) rfl k) ?_
    refine own_go (B := (s₁.setTop (mkF m 155 #[iv px, rv pb, iv (1 : Int32), iv (1 : Int32), iv (1 : Int32), iv z38, iv (1 : Int32), iv z100, iv (0 : Int32), .unset, .unset] [(.int (1 : Int32)), (.int (0 : Int32))]))) (fun t k => own_iconst (v := (1 : Int32)) X0.here hx rfl (hb hby own_mp_d154) (by decide) k) ?_
    refine own_go (B := (s₁.setTop (mkF m 156 #[iv px, rv pb, iv (1 : Int32), iv (1 : Int32), iv (1 : Int32), iv z38, iv (1 : Int32), iv z100, iv (0 : Int32), .unset, .unset] [(.int ((0 : Int32) + (1 : Int32)))]))) (fun t k => XS.iadd (x := (0 : Int32)) (y := (1 : Int32)) X0.here hx rfl (hb hby own_mp_d155) rfl k) ?_
    rw [show ((0 : Int32) + (1 : Int32)) = (1 : Int32) from by decide]
    refine own_go (B := (s₁.setTop (mkF m 158 #[iv px, rv pb, iv (1 : Int32), iv (1 : Int32), iv (1 : Int32), iv z38, iv (1 : Int32), iv z100, iv (0 : Int32), .unset, .unset] [(.int (1 : Int32)), (.int (1 : Int32))]))) (fun t k => XS.iload X0.here hx rfl (hb hby own_mp_d156) rfl k) ?_
    refine own_go (B := (s₁.setTop (mkF m 160 #[iv px, rv pb, iv (1 : Int32), iv (1 : Int32), iv (1 : Int32), iv z38, iv (1 : Int32), iv z100, iv (0 : Int32), .unset, .unset] [(.int (1 : Int32)), (.int (1 : Int32)), (.int (1 : Int32))]))) (fun t k => XS.iload X0.here hx rfl (hb hby own_mp_d158) rfl k) ?_
    refine own_go (B := (s₁.setTop (mkF m 161 #[iv px, rv pb, iv (1 : Int32), iv (1 : Int32), iv (1 : Int32), iv z38, iv (1 : Int32), iv z100, iv (0 : Int32), .unset, .unset] [(.int ((1 : Int32) - (1 : Int32))), (.int (1 : Int32))]))) (fun t k => XS.isub (x := (1 : Int32)) (y := (1 : Int32)) X0.here hx rfl (hb hby own_mp_d160) rfl k) ?_
    rw [show ((1 : Int32) - (1 : Int32)) = (0 : Int32) from by decide]
    refine own_go (B := (s₁.setTop (mkF m 162 #[iv px, rv pb, iv (1 : Int32), iv (1 : Int32), iv (1 : Int32), iv z38, iv (1 : Int32), iv z100, iv (0 : Int32), .unset, .unset] [(.int (2 : Int32)), (.int (0 : Int32)), (.int (1 : Int32))]))) (fun t k => own_iconst (v := (2 : Int32)) X0.here hx rfl (hb hby own_mp_d161) (by decide) k) ?_
    refine own_go (B := (s₁.setTop (mkF m 163 #[iv px, rv pb, iv (1 : Int32), iv (1 : Int32), iv (1 : Int32), iv z38, iv (1 : Int32), iv z100, iv (0 : Int32), .unset, .unset] [(.int ((0 : Int32) >>> ((2 : Int32) &&& 31))), (.int (1 : Int32))]))) (fun t k => XS.ishr (x := (0 : Int32)) (y := (2 : Int32)) X0.here hx rfl (hb hby own_mp_d162) rfl k) ?_
    rw [show ((0 : Int32) >>> ((2 : Int32) &&& 31)) = (0 : Int32) from by decide]
    refine own_go (B := (s₁.setTop (mkF m 164 #[iv px, rv pb, iv (1 : Int32), iv (1 : Int32), iv (1 : Int32), iv z38, iv (1 : Int32), iv z100, iv (0 : Int32), .unset, .unset] [(.int ((1 : Int32) + (0 : Int32)))]))) (fun t k => XS.iadd (x := (1 : Int32)) (y := (0 : Int32)) X0.here hx rfl (hb hby own_mp_d163) rfl k) ?_
    rw [show ((1 : Int32) + (0 : Int32)) = (1 : Int32) from by decide]
    obtain ⟨T24, h24, c24, X24, e24, E24, A24, st24⟩ := newP X0 hx hZ (aty := .int) w_113 e0 (g := (mkF m 164 #[iv px, rv pb, iv (1 : Int32), iv (1 : Int32), iv (1 : Int32), iv z38, iv (1 : Int32), iv z100, iv (0 : Int32), .unset, .unset] [(.int (1 : Int32))])) rfl (hb hby own_mp_d164) rfl (by decide) (cap := 1) (by decide) (by decide) (own_b rfl) (own_b rfl)
    obtain ⟨a24, ga24⟩ : ∃ z, z = h0.size := ⟨_, rfl⟩
    rw [← ga24] at A24 st24
    refine own_go (B := (T24.setTop (mkF m 166 #[iv px, rv pb, iv (1 : Int32), iv (1 : Int32), iv (1 : Int32), iv z38, iv (1 : Int32), iv z100, iv (0 : Int32), .unset, .unset] [(.ref a24)]))) st24 ?_
    have Z25 : n0 ≤ h24.size := Nat.le_trans Z0 E24.1
    have K26 := Keep.ext K0 E24
    have F27 := Sta.ext E24 ZS
    have F28 := Exa.ext E24 ZE
    have F29 := Fld.ext E24 ZF
    have V30 := own_Ar_ext ZV E24
    have gn24 : n0 ≤ a24 := Nat.le_trans Z0 (Nat.le_of_eq ga24.symm)
    have ne24_zz : a24 ≠ zz := fun q => absurd (ZE.lt) (by rw [← q, ga24]; exact Nat.lt_irrefl _)
    have ne24_zm : a24 ≠ zm := fun q => absurd (own_Ar_lt ZV) (by rw [← q, ga24]; exact Nat.lt_irrefl _)
    have V24 : own_Ar Z h24 a24 .int [(.int (0 : Int32))] := own_Ar_new A24 (N := 1) (by decide) rfl
    refine own_go (B := (T24.setTop (mkF m 168 #[iv px, rv pb, iv (1 : Int32), iv (1 : Int32), iv (1 : Int32), iv z38, iv (1 : Int32), iv z100, iv (0 : Int32), rv a24, .unset] []))) (fun t k => XS.astore X24.here hx rfl (hb hby own_mp_d166) rfl rfl (l' := #[iv px, rv pb, iv (1 : Int32), iv (1 : Int32), iv (1 : Int32), iv z38, iv (1 : Int32), iv z100, iv (0 : Int32), rv a24, .unset]) rfl k) ?_
    refine own_go (B := (T24.setTop (mkF m 170 #[iv px, rv pb, iv (1 : Int32), iv (1 : Int32), iv (1 : Int32), iv z38, iv (1 : Int32), iv z100, iv (0 : Int32), rv a24, .unset] [(.ref a24)]))) (fun t k => XS.aload X24.here hx rfl (hb hby own_mp_d168) rfl rfl k) ?_
    refine own_go (B := (T24.setTop (mkF m 171 #[iv px, rv pb, iv (1 : Int32), iv (1 : Int32), iv (1 : Int32), iv z38, iv (1 : Int32), iv z100, iv (0 : Int32), rv a24, .unset] [(.int (0 : Int32)), (.ref a24)]))) (fun t k => own_iconst (v := (0 : Int32)) X24.here hx rfl (hb hby own_mp_d170) (by decide) k) ?_
    refine own_go (B := (T24.setTop (mkF m 173 #[iv px, rv pb, iv (1 : Int32), iv (1 : Int32), iv (1 : Int32), iv z38, iv (1 : Int32), iv z100, iv (0 : Int32), rv a24, .unset] [(.int (0 : Int32)), (.int (0 : Int32)), (.ref a24)]))) (fun t k => XS.iload X24.here hx rfl (hb hby own_mp_d171) rfl k) ?_
    have hc173 : (0 : Int32) = (0 : Int32) := (by decide)
    refine own_ifN X24 hx (hb hby own_mp_d173) (pn := 176) rfl hc173 ?_
    refine own_go (B := (T24.setTop (mkF m 178 #[iv px, rv pb, iv (1 : Int32), iv (1 : Int32), iv (1 : Int32), iv z38, iv (1 : Int32), iv z100, iv (0 : Int32), rv a24, .unset] [(.int z38), (.int (0 : Int32)), (.ref a24)]))) (fun t k => XS.iload X24.here hx rfl (hb hby own_mp_d176) rfl k) ?_
    refine own_go (B := (T24.setTop (mkF m 182 #[iv px, rv pb, iv (1 : Int32), iv (1 : Int32), iv (1 : Int32), iv z38, iv (1 : Int32), iv z100, iv (0 : Int32), rv a24, .unset] [(.int z38), (.int (0 : Int32)), (.ref a24)]))) (fun t k => XS.goto X24.here hx rfl (pc0 := 178) (pc' := 182) rfl (hb hby own_mp_d178) (by decide) (by decide) k) ?_
    obtain ⟨T31, h31, X31, e31, W31, V31, st31⟩ := own_stI X24 hx hZ e24 V24 (i := 0) (by decide) (by decide) (Nat.lt_of_lt_of_eq (by decide : 0 < 1) rfl) (L' := [(.int z38)]) rfl (g := (mkF m 182 #[iv px, rv pb, iv (1 : Int32), iv (1 : Int32), iv (1 : Int32), iv z38, iv (1 : Int32), iv z100, iv (0 : Int32), rv a24, .unset] [(.int z38), (.int (0 : Int32)), (.ref a24)])) rfl rfl (hb hby own_mp_d182)
    refine own_go (B := (T31.setTop (mkF m 183 #[iv px, rv pb, iv (1 : Int32), iv (1 : Int32), iv (1 : Int32), iv z38, iv (1 : Int32), iv z100, iv (0 : Int32), rv a24, .unset] []))) st31 ?_
    obtain ⟨L31, X31, N31⟩ := own_abs X31 (Fr.snoc X31 N0 gn24)
    have F32 : n0 ≤ h31.size := by rw [W31.size]; exact Z25
    have F33 := Keep.wr K26 W31 (Or.inr (Nat.le_trans K0.1 (Nat.le_of_eq ga24.symm)))
    have F34 := Sta.wr W31 F27
    have F35 := Exa.wr W31 F28
    have F36 := Fld.other W31 F29 (Or.inl (Ne.symm ne24_zz))
    have F37 := own_Ar_other V30 W31 (Ne.symm ne24_zm)
    refine own_go (B := (T31.setTop (mkF m 185 #[iv px, rv pb, iv (1 : Int32), iv (1 : Int32), iv (1 : Int32), iv z38, iv (1 : Int32), iv z100, iv (0 : Int32), rv a24, .unset] [(.ref a24)]))) (fun t k => XS.aload X31.here hx rfl (hb hby own_mp_d183) rfl rfl k) ?_
    refine own_go (B := (T31.setTop (mkF m 186 #[iv px, rv pb, iv (1 : Int32), iv (1 : Int32), iv (1 : Int32), iv z38, iv (1 : Int32), iv z100, iv (0 : Int32), rv a24, .unset] [(.int (1 : Int32))]))) (own_alen X31 hx hZ e31 V31 (n := (1 : Int32)) (own_lenL (n := 1) rfl (by decide)) (g := (mkF m 185 #[iv px, rv pb, iv (1 : Int32), iv (1 : Int32), iv (1 : Int32), iv z38, iv (1 : Int32), iv z100, iv (0 : Int32), rv a24, .unset] [(.ref a24)])) rfl rfl (hb hby own_mp_d185)) ?_
    refine own_go (B := (T31.setTop (mkF m 188 #[iv px, rv pb, iv (1 : Int32), iv (1 : Int32), iv (1 : Int32), iv z38, iv (1 : Int32), iv z100, iv (0 : Int32), rv a24, .unset] [(.int (1 : Int32)), (.int (1 : Int32))]))) (fun t k => XS.iload X31.here hx rfl (hb hby own_mp_d186) rfl k) ?_
    refine own_go (B := (T31.setTop (mkF m 189 #[iv px, rv pb, iv (1 : Int32), iv (1 : Int32), iv (1 : Int32), iv z38, iv (1 : Int32), iv z100, iv (0 : Int32), rv a24, .unset] [(.int (1 : Int32)), (.int (1 : Int32)), (.int (1 : Int32))]))) (fun t k => XS.iloadN X31.here hx rfl (hb hby own_mp_d188) rfl k) ?_
    refine own_go (B := (T31.setTop (mkF m 190 #[iv px, rv pb, iv (1 : Int32), iv (1 : Int32), iv (1 : Int32), iv z38, iv (1 : Int32), iv z100, iv (0 : Int32), rv a24, .unset] [(.int ((1 : Int32) - (1 : Int32))), (.int (1 : Int32))]))) (fun t k => XS.isub (x := (1 : Int32)) (y := (1 : Int32)) X31.here hx rfl (hb hby own_mp_d189) rfl k) ?_
    rw [show ((1 : Int32) - (1 : Int32)) = (0 : Int32) from by decide]
    refine own_go (B := (T31.setTop (mkF m 191 #[iv px, rv pb, iv (1 : Int32), iv (1 : Int32), iv (1 : Int32), iv z38, iv (1 : Int32), iv z100, iv (0 : Int32), rv a24, .unset] [(.int (2 : Int32)), (.int (0 : Int32)), (.int (1 : Int32))]))) (fun t k => own_iconst (v := (2 : Int32)) X31.here hx rfl (hb hby own_mp_d190) (by decide) k) ?_
    refine own_go (B := (T31.setTop (mkF m 192 #[iv px, rv pb, iv (1 : Int32), iv (1 : Int32), iv (1 : Int32), iv z38, iv (1 : Int32), iv z100, iv (0 : Int32), rv a24, .unset] [(.int ((0 : Int32) >>> ((2 : Int32) &&& 31))), (.int (1 : Int32))]))) (fun t k => XS.ishr (x := (0 : Int32)) (y := (2 : Int32)) X31.here hx rfl (hb hby own_mp_d191) rfl k) ?_
    rw [show ((0 : Int32) >>> ((2 : Int32) &&& 31)) = (0 : Int32) from by decide]
    refine own_go (B := (T31.setTop (mkF m 193 #[iv px, rv pb, iv (1 : Int32), iv (1 : Int32), iv (1 : Int32), iv z38, iv (1 : Int32), iv z100, iv (0 : Int32), rv a24, .unset] [(.int ((1 : Int32) - (0 : Int32)))]))) (fun t k => XS.isub (x := (1 : Int32)) (y := (0 : Int32)) X31.here hx rfl (hb hby own_mp_d192) rfl k) ?_
    rw [show ((1 : Int32) - (0 : Int32)) = (1 : Int32) from by decide]
    refine own_go (B := (T31.setTop (mkF m 195 #[iv px, rv pb, iv (1 : Int32), iv (1 : Int32), iv (1 : Int32), iv z38, iv (1 : Int32), iv z100, iv (0 : Int32), rv a24, iv (1 : Int32)] []))) (fun t k => XS.istore X31.here hx rfl (hb hby own_mp_d193) rfl (l' := #[iv px, rv pb, iv (1 : Int32), iv (1 : Int32), iv (1 : Int32), iv z38, iv (1 : Int32), iv z100, iv (0 : Int32), rv a24, iv (1 : Int32)]) rfl k) ?_
    refine own_go (B := (T31.setTop (mkF m 197 #[iv px, rv pb, iv (1 : Int32), iv (1 : Int32), iv (1 : Int32), iv z38, iv (1 : Int32), iv z100, iv (0 : Int32), rv a24, iv (1 : Int32)] [(.int (1 : Int32))]))) (fun t k => XS.iload X31.here hx rfl (hb hby own_mp_d195) rfl k) ?_
    refine own_go (B := (T31.setTop (mkF m 198 #[iv px, rv pb, iv (1 : Int32), iv (1 : Int32), iv (1 : Int32), iv z38, iv (1 : Int32), iv z100, iv (0 : Int32), rv a24, iv (1 : Int32)] [(.int (1 : Int32)), (.int (1 : Int32))]))) (fun t k => own_iconst (v := (1 : Int32)) X31.here hx rfl (hb hby own_mp_d197) (by decide) k) ?_
    have hc198 : ¬ (1 : Int32) < (1 : Int32) := (by decide)
    refine own_icmpY X31 hx (hb hby own_mp_d198) (pc' := 210) (by decide) (by decide) hc198 ?_
    refine own_go (B := (T31.setTop (mkF m 211 #[iv px, rv pb, iv (1 : Int32), iv (1 : Int32), iv (1 : Int32), iv z38, iv (1 : Int32), iv z100, iv (0 : Int32), rv a24, iv (1 : Int32)] [(.int (1 : Int32))]))) (fun t k => XS.iloadN X31.here hx rfl (hb hby own_mp_d210) rfl k) ?_
    refine own_go (B := (T31.setTop (mkF m 213 #[iv px, rv pb, iv (1 : Int32), iv (1 : Int32), iv (1 : Int32), iv z38, iv (1 : Int32), iv z100, iv (0 : Int32), rv a24, iv (1 : Int32)] [(.int (1 : Int32)), (.int (1 : Int32))]))) (fun t k => XS.iload X31.here hx rfl (hb hby own_mp_d211) rfl k) ?_
    have hc213 : ¬ (1 : Int32) < (1 : Int32) := (by decide)
    refine own_icmpY X31 hx (hb hby own_mp_d213) (pc' := 275) (by decide) (by decide) hc213 ?_
    refine own_go (B := (T31.setTop (mkF m 278 #[iv px, rv pb, iv (1 : Int32), iv (1 : Int32), iv (1 : Int32), iv z38, iv (1 : Int32), iv z100, iv (0 : Int32), rv a24, iv (0 : Int32)] []))) (fun t k => XS.iinc X31.here hx rfl (hb hby own_mp_d275) rfl (l' := #[iv px, rv pb, iv (1 : Int32), iv (1 : Int32), iv (1 : Int32), iv z38, iv (1 : Int32), iv z100, iv (0 : Int32), rv a24, iv (0 : Int32)]) rfl k) ?_
    refine own_go (B := (T31.setTop (mkF m 280 #[iv px, rv pb, iv (1 : Int32), iv (1 : Int32), iv (1 : Int32), iv z38, iv (1 : Int32), iv z100, iv (0 : Int32), rv a24, iv (0 : Int32)] [(.int (0 : Int32))]))) (fun t k => XS.iload X31.here hx rfl (hb hby own_mp_d278) rfl k) ?_
    have hc280 : ¬ (0 : Int32) < (0 : Int32) := (by decide)
    refine own_ifN X31 hx (hb hby own_mp_d280) (pn := 283) rfl hc280 ?_
    refine own_go (B := (T31.setTop (mkF m 285 #[iv px, rv pb, iv (1 : Int32), iv (1 : Int32), iv (1 : Int32), iv z38, iv (1 : Int32), iv z100, iv (0 : Int32), rv a24, iv (0 : Int32)] [(.ref a24)]))) (fun t k => XS.aload X31.here hx rfl (hb hby own_mp_d283) rfl rfl k) ?_
    refine own_go (B := (T31.setTop (mkF m 287 #[iv px, rv pb, iv (1 : Int32), iv (1 : Int32), iv (1 : Int32), iv z38, iv (1 : Int32), iv z100, iv (0 : Int32), rv a24, iv (0 : Int32)] [(.int (0 : Int32)), (.ref a24)]))) (fun t k => XS.iload X31.here hx rfl (hb hby own_mp_d285) rfl k) ?_
    refine own_go (B := (T31.setTop (mkF m 288 #[iv px, rv pb, iv (1 : Int32), iv (1 : Int32), iv (1 : Int32), iv z38, iv (1 : Int32), iv z100, iv (0 : Int32), rv a24, iv (0 : Int32)] [(.int z38)]))) (own_ldI X31 hx hZ e31 V31 (v := (.int z38)) (by decide) rfl (g := (mkF m 287 #[iv px, rv pb, iv (1 : Int32), iv (1 : Int32), iv (1 : Int32), iv z38, iv (1 : Int32), iv z100, iv (0 : Int32), rv a24, iv (0 : Int32)] [(.int (0 : Int32)), (.ref a24)])) rfl rfl (hb hby own_mp_d287)) ?_
    have hc288 : ¬ z38 = (0 : Int32) := (own_mpB hz38)
    refine own_ifY X31 hx (hb hby own_mp_d288) (pc' := 294) (by decide) (by decide) hc288 ?_
    refine own_go (B := (T31.setTop (mkF m 296 #[iv px, rv pb, iv (1 : Int32), iv (1 : Int32), iv (1 : Int32), iv z38, iv (1 : Int32), iv z100, iv (0 : Int32), rv a24, iv (0 : Int32)] [(.ref a24)]))) (fun t k => XS.aload X31.here hx rfl (hb hby own_mp_d294) rfl rfl k) ?_
    refine own_go (B := (T31.setTop (mkF m 298 #[iv px, rv pb, iv (1 : Int32), iv (1 : Int32), iv (1 : Int32), iv z38, iv (1 : Int32), iv z100, iv (0 : Int32), rv a24, iv (0 : Int32)] [(.int (0 : Int32)), (.ref a24)]))) (fun t k => XS.iload X31.here hx rfl (hb hby own_mp_d296) rfl k) ?_
    refine own_go (B := (T31.setTop (mkF m 300 #[iv px, rv pb, iv (1 : Int32), iv (1 : Int32), iv (1 : Int32), iv z38, iv (1 : Int32), iv z100, iv (0 : Int32), rv a24, iv (0 : Int32)] [(.ref a24), (.int (0 : Int32)), (.ref a24)]))) (fun t k => XS.aload X31.here hx rfl (hb hby own_mp_d298) rfl rfl k) ?_
    refine own_go (B := (T31.setTop (mkF m 302 #[iv px, rv pb, iv (1 : Int32), iv (1 : Int32), iv (1 : Int32), iv z38, iv (1 : Int32), iv z100, iv (0 : Int32), rv a24, iv (0 : Int32)] [(.int (0 : Int32)), (.ref a24), (.int (0 : Int32)), (.ref a24)]))) (fun t k => XS.iload X31.here hx rfl (hb hby own_mp_d300) rfl k) ?_
    refine own_go (B := (T31.setTop (mkF m 303 #[iv px, rv pb, iv (1 : Int32), iv (1 : Int32), iv (1 : Int32), iv z38, iv (1 : Int32), iv z100, iv (0 : Int32), rv a24, iv (0 : Int32)] [(.int z38), (.int (0 : Int32)), (.ref a24)]))) (own_ldI X31 hx hZ e31 V31 (v := (.int z38)) (by decide) rfl (g := (mkF m 302 #[iv px, rv pb, iv (1 : Int32), iv (1 : Int32), iv (1 : Int32), iv z38, iv (1 : Int32), iv z100, iv (0 : Int32), rv a24, iv (0 : Int32)] [(.int (0 : Int32)), (.ref a24), (.int (0 : Int32)), (.ref a24)])) rfl rfl (hb hby own_mp_d302)) ?_
    refine own_go (B := (T31.setTop (mkF m 304 #[iv px, rv pb, iv (1 : Int32), iv (1 : Int32), iv (1 : Int32), iv z38, iv (1 : Int32), iv z100, iv (0 : Int32), rv a24, iv (0 : Int32)] [(.int (-z38)), (.int (0 : Int32)), (.ref a24)]))) (fun t k => XS.ineg X31.here hx rfl (hb hby own_mp_d303) rfl k) ?_
    obtain ⟨T39, h39, X39, e39, W39, V39, st39⟩ := own_stI X31 hx hZ e31 V31 (i := 0) (by decide) (by decide) (Nat.lt_of_lt_of_eq (by decide : 0 < 1) rfl) (L' := [(.int (-z38))]) rfl (g := (mkF m 304 #[iv px, rv pb, iv (1 : Int32), iv (1 : Int32), iv (1 : Int32), iv z38, iv (1 : Int32), iv z100, iv (0 : Int32), rv a24, iv (0 : Int32)] [(.int (-z38)), (.int (0 : Int32)), (.ref a24)])) rfl rfl (hb hby own_mp_d304)
    refine own_go (B := (T39.setTop (mkF m 305 #[iv px, rv pb, iv (1 : Int32), iv (1 : Int32), iv (1 : Int32), iv z38, iv (1 : Int32), iv z100, iv (0 : Int32), rv a24, iv (0 : Int32)] []))) st39 ?_
    obtain ⟨L39, X39, N39⟩ := own_abs X39 (Fr.snoc X39 N31 gn24)
    have F40 : n0 ≤ h39.size := by rw [W39.size]; exact F32
    have F41 := Keep.wr F33 W39 (Or.inr (Nat.le_trans K0.1 (Nat.le_of_eq ga24.symm)))
    have F42 := Sta.wr W39 F34
    have F43 := Exa.wr W39 F35
    have F44 := Fld.other W39 F36 (Or.inl (Ne.symm ne24_zz))
    have F45 := own_Ar_other F37 W39 (Ne.symm ne24_zm)
    refine own_go (B := (T39.setTop (mkF m 308 #[iv px, rv pb, iv (1 : Int32), iv (1 : Int32), iv (1 : Int32), iv z38, iv (1 : Int32), iv z100, iv (0 : Int32), rv a24, iv (-1 : Int32)] []))) (fun t k => XS.iinc X39.here hx rfl (hb hby own_mp_d305) rfl (l' := #[iv px, rv pb, iv (1 : Int32), iv (1 : Int32), iv (1 : Int32), iv z38, iv (1 : Int32), iv z100, iv (0 : Int32), rv a24, iv (-1 : Int32)]) rfl k) ?_
    refine own_go (B := (T39.setTop (mkF m 310 #[iv px, rv pb, iv (1 : Int32), iv (1 : Int32), iv (1 : Int32), iv z38, iv (1 : Int32), iv z100, iv (0 : Int32), rv a24, iv (-1 : Int32)] [(.int (-1 : Int32))]))) (fun t k => XS.iload X39.here hx rfl (hb hby own_mp_d308) rfl k) ?_
    have hc310 : (-1 : Int32) < (0 : Int32) := (by decide)
    refine own_ifY X39 hx (hb hby own_mp_d310) (pc' := 328) (by decide) (by decide) hc310 ?_
    refine own_go (B := (T39.setTop (mkF m 330 #[iv px, rv pb, iv (1 : Int32), iv (1 : Int32), iv (1 : Int32), iv z38, iv (1 : Int32), iv z100, iv (0 : Int32), rv a24, iv (-1 : Int32)] [(.ref a24)]))) (fun t k => XS.aload X39.here hx rfl (hb hby own_mp_d328) rfl rfl k) ?_
    exact own_retA X39 hx hlk Bd.returns rfl rfl (hb hby own_mp_d330) (own_b rfl) (own_b rfl) (Q := (own_mp_Q Z px pb zz zm h0 n0)) (by rw [e39]; exact ⟨_, [(.int (-z38))], rfl, N39, F41, V39, by exact Nat.le_refl 1⟩)

theorem own_b3_d0 : decode jdk_2097_method_1_code 0 = .ok (.aload_n 0, 1) := by decide +kernel
theorem own_b3_d1 : decode jdk_2097_method_1_code 1 = .ok (.invokespecial 3, 3) := by decide +kernel
theorem own_b3_d4 : decode jdk_2097_method_1_code 4 = .ok (.aload_n 1, 1) := by decide +kernel
theorem own_b3_d5 : decode jdk_2097_method_1_code 5 = .ok (.arraylength, 1) := by decide +kernel
theorem own_b3_d6 : decode jdk_2097_method_1_code 6 = .ok (.ifCond .ne 13, 3) := by decide +kernel
theorem own_b3_d19 : decode jdk_2097_method_1_code 19 = .ok (.iload_n 2, 1) := by decide +kernel
theorem own_b3_d20 : decode jdk_2097_method_1_code 20 = .ok (.iload_n 3, 1) := by decide +kernel
theorem own_b3_d21 : decode jdk_2097_method_1_code 21 = .ok (.aload_n 1, 1) := by decide +kernel
theorem own_b3_d22 : decode jdk_2097_method_1_code 22 = .ok (.arraylength, 1) := by decide +kernel
theorem own_b3_d23 : decode jdk_2097_method_1_code 23 = .ok (.invokestatic 16, 3) := by decide +kernel
theorem own_b3_d26 : decode jdk_2097_method_1_code 26 = .ok (.pop, 1) := by decide +kernel
theorem own_b3_d27 : decode jdk_2097_method_1_code 27 = .ok (.iload_n 3, 1) := by decide +kernel
theorem own_b3_d28 : decode jdk_2097_method_1_code 28 = .ok (.ifCond .ne 24, 3) := by decide +kernel
theorem own_b3_d52 : decode jdk_2097_method_1_code 52 = .ok (.aload_n 1, 1) := by decide +kernel
theorem own_b3_d53 : decode jdk_2097_method_1_code 53 = .ok (.iload_n 2, 1) := by decide +kernel
theorem own_b3_d54 : decode jdk_2097_method_1_code 54 = .ok (.baload, 1) := by decide +kernel
theorem own_b3_d55 : decode jdk_2097_method_1_code 55 = .ok (.istore 4, 2) := by decide +kernel
theorem own_b3_d57 : decode jdk_2097_method_1_code 57 = .ok (.iload 4, 2) := by decide +kernel
theorem own_b3_d59 : decode jdk_2097_method_1_code 59 = .ok (.ifCond .ge 23, 3) := by decide +kernel
theorem own_b3_d62 : decode jdk_2097_method_1_code 62 = .ok (.aload_n 0, 1) := by decide +kernel
theorem own_b3_d63 : decode jdk_2097_method_1_code 63 = .ok (.iload 4, 2) := by decide +kernel
theorem own_b3_d65 : decode jdk_2097_method_1_code 65 = .ok (.aload_n 1, 1) := by decide +kernel
theorem own_b3_d66 : decode jdk_2097_method_1_code 66 = .ok (.iload_n 2, 1) := by decide +kernel
theorem own_b3_d67 : decode jdk_2097_method_1_code 67 = .ok (.iload_n 3, 1) := by decide +kernel
theorem own_b3_d68 : decode jdk_2097_method_1_code 68 = .ok (.invokestatic 36, 3) := by decide +kernel
theorem own_b3_d71 : decode jdk_2097_method_1_code 71 = .ok (.putfield 28, 3) := by decide +kernel
theorem own_b3_d74 : decode jdk_2097_method_1_code 74 = .ok (.aload_n 0, 1) := by decide +kernel
theorem own_b3_d75 : decode jdk_2097_method_1_code 75 = .ok (.iconst (-1), 1) := by decide +kernel
theorem own_b3_d76 : decode jdk_2097_method_1_code 76 = .ok (.putfield 32, 3) := by decide +kernel
theorem own_b3_d79 : decode jdk_2097_method_1_code 79 = .ok (.goto 32, 3) := by decide +kernel
theorem own_b3_d82 : decode jdk_2097_method_1_code 82 = .ok (.aload_n 0, 1) := by decide +kernel
theorem own_b3_d83 : decode jdk_2097_method_1_code 83 = .ok (.iload 4, 2) := by decide +kernel
theorem own_b3_d85 : decode jdk_2097_method_1_code 85 = .ok (.aload_n 1, 1) := by decide +kernel
theorem own_b3_d86 : decode jdk_2097_method_1_code 86 = .ok (.iload_n 2, 1) := by decide +kernel
theorem own_b3_d87 : decode jdk_2097_method_1_code 87 = .ok (.iload_n 3, 1) := by decide +kernel
theorem own_b3_d88 : decode jdk_2097_method_1_code 88 = .ok (.invokestatic 40, 3) := by decide +kernel
theorem own_b3_d91 : decode jdk_2097_method_1_code 91 = .ok (.putfield 28, 3) := by decide +kernel
theorem own_b3_d94 : decode jdk_2097_method_1_code 94 = .ok (.aload_n 0, 1) := by decide +kernel
theorem own_b3_d95 : decode jdk_2097_method_1_code 95 = .ok (.aload_n 0, 1) := by decide +kernel
theorem own_b3_d96 : decode jdk_2097_method_1_code 96 = .ok (.getfield 28, 3) := by decide +kernel
theorem own_b3_d99 : decode jdk_2097_method_1_code 99 = .ok (.arraylength, 1) := by decide +kernel
theorem own_b3_d100 : decode jdk_2097_method_1_code 100 = .ok (.ifCond .ne 7, 3) := by decide +kernel
theorem own_b3_d103 : decode jdk_2097_method_1_code 103 = .ok (.iconst 0, 1) := by decide +kernel
theorem own_b3_d104 : decode jdk_2097_method_1_code 104 = .ok (.goto 4, 3) := by decide +kernel
theorem own_b3_d107 : decode jdk_2097_method_1_code 107 = .ok (.iconst 1, 1) := by decide +kernel
theorem own_b3_d108 : decode jdk_2097_method_1_code 108 = .ok (.putfield 32, 3) := by decide +kernel
theorem own_b3_d111 : decode jdk_2097_method_1_code 111 = .ok (.aload_n 0, 1) := by decide +kernel
theorem own_b3_d112 : decode jdk_2097_method_1_code 112 = .ok (.getfield 28, 3) := by decide +kernel
theorem own_b3_d115 : decode jdk_2097_method_1_code 115 = .ok (.arraylength, 1) := by decide +kernel
theorem own_b3_d116 : decode jdk_2097_method_1_code 116 = .ok (.ldc 43, 2) := by decide +kernel
theorem own_b3_d118 : decode jdk_2097_method_1_code 118 = .ok (.if_icmp .lt 7, 3) := by decide +kernel
theorem own_b3_d125 : decode jdk_2097_method_1_code 125 = .ok (.return_, 1) := by decide +kernel
theorem own_b3_pn : plainName "java/math/BigInteger" = true := by first | (simp [plainName, overriddenIn]; done) | decide +kernel
theorem own_b3_ef (m : MethodId) (th : Addr) (pb : Addr) : entryFrame m #[(.ref th), (.ref pb), (.int (0 : Int32)), (.int (1 : Int32))] 5 = mkF m 0 #[rv th, rv pb, iv (0 : Int32), iv (1 : Int32), .unset] [] := by first | (simp [entryFrame, mkF, argsToLocals, Value.category]; done) | rfl
def own_b3_Q (Z : State) (th : Addr) (pb : Addr) (px : Int32) (zz zm : Addr) (h0 : Heap) (n0 : Nat) (v : Option Value) (h : Heap) (L : List Loc) : Prop := v = none ∧ Fr n0 L ∧ Keep h0 h [th]
set_option maxRecDepth 65536 in
set_option maxHeartbeats 40000000 in
theorem own_b3 (l : Launch) (Z : State) (a0 : Array Value) (hw : ∀ d ∈ tables_1, d.before a0 Z = true) (ws : List Jvm.Cond) (th : Addr) (pb : Addr) (px : Int32) (zz zm : Addr) (h0 : Heap) (n0 : Nat) (Z0 : n0 ≤ h0.size) (E0 : Exa Z h0 th "java/math/BigInteger") (g0 : n0 ≤ th) (F9000 : Fld Z h0 th "java/math/BigInteger" "mag" "[I" .null) (F9001 : Fld Z h0 th "java/math/BigInteger" "signum" "I" (.int (0 : Int32))) (V0 : own_Ar Z h0 pb .byte [(.int px)]) (ZS : Sta Z h0 "java/math/BigInteger" "ZERO" "Ljava/math/BigInteger;" (.ref zz)) (ZE : Exa Z h0 zz "java/math/BigInteger") (ZF : Fld Z h0 zz "java/math/BigInteger" "mag" "[I" (.ref zm)) (ZV : own_Ar Z h0 zm .int []) :
    MetFree l own_y8 (head1 (Jvm.Cond.code own_y8 jdk_2097_method_1_code 5 none :: ws) ({ frames := 2, cells := 1, slots := 1, locals := 29 } : Room)) (fun a U => a = #[(.ref th), (.ref pb), (.int (0 : Int32)), (.int (1 : Int32))] ∧ Z.Warmed39 U.vm ∧ U.heap = h0) (fun _ _ _ _ _ => True) (fun _ U o U' => ∃ v L, o = .returned v ∧ (own_b3_Q Z th pb px zz zm h0 n0) v U'.heap L ∧ FrameEnd U o U' L ({ frames := 2, cells := 1, slots := 1, locals := 29 } : Room).cells ({ frames := 2, cells := 1, slots := 1, locals := 29 } : Room).slots) := by
  refine MetFree.of_bodySF (plainFor_of_name own_b3_pn) hisR ?_
  intro p e s m args below meth c s₁ Bd hml0 hP hK
  obtain ⟨rfl, hZ, hh⟩ := hP
  have hx := Bd.exec
  have hby := Bd.bytes
  have hml : c.maxLocals = 5 := hml0
  have hown : s.vm.findClass "java/math/BigInteger" = some m.cls := findClass_of_methodNamed Bd.named
  have hnm := (name_of_methodNamed Bd.named Bd.method).1
  have hlk : meth.locks = false := Bd.notSynchronized
  have X0 : Stand p l e ({ frames := 2, cells := 1, slots := 1, locals := 29 } : Room) s m #[(.ref th), (.ref pb), (.int (0 : Int32)), (.int (1 : Int32))] below meth c s₁ [] 0 0 := Stand.of_body Bd
  have e0 : s₁.heap = h0 := by rw [← hh, Bd.state]; rfl
  have N0 := Fr.nil n0
  have w_53 := hw _ (List.mem_of_getElem? (l := tables_1) (i := 53) rfl)
  have w_54 := hw _ (List.mem_of_getElem? (l := tables_1) (i := 54) rfl)
  have w_80 := hw _ (List.mem_of_getElem? (l := tables_1) (i := 80) rfl)
  have w_81 := hw _ (List.mem_of_getElem? (l := tables_1) (i := 81) rfl)
  have w_84 := hw _ (List.mem_of_getElem? (l := tables_1) (i := 84) rfl)
  have w_85 := hw _ (List.mem_of_getElem? (l := tables_1) (i := 85) rfl)
  have w_87 := hw _ (List.mem_of_getElem? (l := tables_1) (i := 87) rfl)
  have w_88 := hw _ (List.mem_of_getElem? (l := tables_1) (i := 88) rfl)
  have w_89 := hw _ (List.mem_of_getElem? (l := tables_1) (i := 89) rfl)
  have w_90 := hw _ (List.mem_of_getElem? (l := tables_1) (i := 90) rfl)
  have w_95 := hw _ (List.mem_of_getElem? (l := tables_1) (i := 95) rfl)
  have w_96 := hw _ (List.mem_of_getElem? (l := tables_1) (i := 96) rfl)
  have w_97 := hw _ (List.mem_of_getElem? (l := tables_1) (i := 97) rfl)
  have w_99 := hw _ (List.mem_of_getElem? (l := tables_1) (i := 99) rfl)
  have w_100 := hw _ (List.mem_of_getElem? (l := tables_1) (i := 100) rfl)
  have w_101 := hw _ (List.mem_of_getElem? (l := tables_1) (i := 101) rfl)
  have w_102 := hw _ (List.mem_of_getElem? (l := tables_1) (i := 102) rfl)
  have w_103 := hw _ (List.mem_of_getElem? (l := tables_1) (i := 103) rfl)
  have w_110 := hw _ (List.mem_of_getElem? (l := tables_1) (i := 110) rfl)
  have w_111 := hw _ (List.mem_of_getElem? (l := tables_1) (i := 111) rfl)
  have w_112 := hw _ (List.mem_of_getElem? (l := tables_1) (i := 112) rfl)
  show own_G p.tables e below (fun o U' => ∃ v L, o = .returned v ∧ (own_b3_Q Z th pb px zz zm h0 n0) v U'.heap L ∧ FrameEnd s o U' L ({ frames := 2, cells := 1, slots := 1, locals := 29 } : Room).cells ({ frames := 2, cells := 1, slots := 1, locals := 29 } : Room).slots) (s₁.setTop (entryFrame m #[(.ref th), (.ref pb), (.int (0 : Int32)), (.int (1 : Int32))] 5))
  refine own_go (B := s₁.setTop (mkF m 0 #[rv th, rv pb, iv (0 : Int32), iv (1 : Int32), .unset] [])) (fun t k => castTop (own_b3_ef m th pb) k) ?_
  have K0 := Keep.refl h0 [th]
  refine own_go (B := (s₁.setTop (mkF m 1 #[rv th, rv pb, iv (0 : Int32), iv (1 : Int32), .unset] [(.ref th)]))) (fun t k => XS.aloadN X0.here hx rfl (hb hby own_b3_d0) rfl rfl k) ?_
  obtain ⟨_, _, ⟨T1, L1, k1, n1⟩, -, X1, ⟨Lc1, hQ1, l1, yy1, zz1⟩, st1⟩ := X0.specialBack hx (y := own_y4) rfl hown (mvT hZ w_80) (mvT hZ w_81) (mvT hZ w_85) (by decide) (backOf (W := 0) (own_num l Z a0 hw [] th h0 n0) hZ w_85 w_84 (by decide) (by decide)) (g := (mkF m 1 #[rv th, rv pb, iv (0 : Int32), iv (1 : Int32), .unset] [(.ref th)])) rfl (by rw [hml]; rfl) (Steps.refl _) (a := th) (argsL := []) (rest := []) (lenOf own_pd4 rfl) rfl (by show 2 * 0 + _ ≤ _; exact own_b rfl) (hb hby own_b3_d1) (fun _ _ => ⟨rfl, e0, (own_b rfl : 0 + 0 ≤ _), (own_b rfl : 0 + 0 ≤ _)⟩)
  dsimp only [Pt.U, Pt.locs, Pt.cells, Pt.slots] at X1 l1 yy1 zz1 st1 hQ1
  obtain ⟨rfl, Nq1, eq1⟩ := hQ1
  obtain ⟨L1, X1, N1⟩ := own_absC (K := 0) (K' := 0) X1 l1 yy1 zz1 N0 Nq1
  have e1 : T1.heap = h0 := eq1
  refine own_tr (B := (T1.setTop (mkF m 4 #[rv th, rv pb, iv (0 : Int32), iv (1 : Int32), .unset] []))) st1 ?_
  refine own_go (B := (T1.setTop (mkF m 5 #[rv th, rv pb, iv (0 : Int32), iv (1 : Int32), .unset] [(.ref pb)]))) (fun t k => XS.aloadN X1.here hx rfl (hb hby own_b3_d4) rfl rfl k) ?_
  refine own_go (B := (T1.setTop (mkF m 6 #[rv th, rv pb, iv (0 : Int32), iv (1 : Int32), .unset] [(.int (1 : Int32))]))) (own_alen X1 hx hZ e1 V0 (n := (1 : Int32)) (own_lenL (n := 1) rfl (by decide)) (g := (mkF m 5 #[rv th, rv pb, iv (0 : Int32), iv (1 : Int32), .unset] [(.ref pb)])) rfl rfl (hb hby own_b3_d5)) ?_
  have hc6 : ¬ (1 : Int32) = (0 : Int32) := (by decide)
  refine own_ifY X1 hx (hb hby own_b3_d6) (pc' := 19) (by decide) (by decide) hc6 ?_
  refine own_go (B := (T1.setTop (mkF m 20 #[rv th, rv pb, iv (0 : Int32), iv (1 : Int32), .unset] [(.int (0 : Int32))]))) (fun t k => XS.iloadN X1.here hx rfl (hb hby own_b3_d19) rfl k) ?_
  refine own_go (B := (T1.setTop (mkF m 21 #[rv th, rv pb, iv (0 : Int32), iv (1 : Int32), .unset] [(.int (1 : Int32)), (.int (0 : Int32))]))) (fun t k => XS.iloadN X1.here hx rfl (hb hby own_b3_d20) rfl k) ?_
  refine own_go (B := (T1.setTop (mkF m 22 #[rv th, rv pb, iv (0 : Int32), iv (1 : Int32), .unset] [(.ref pb), (.int (1 : Int32)), (.int (0 : Int32))]))) (fun t k => XS.aloadN X1.here hx rfl (hb hby own_b3_d21) rfl rfl k) ?_
  refine own_go (B := (T1.setTop (mkF m 23 #[rv th, rv pb, iv (0 : Int32), iv (1 : Int32), .unset] [(.int (1 : Int32)), (.int (1 : Int32)), (.int (0 : Int32))]))) (own_alen X1 hx hZ e1 V0 (n := (1 : Int32)) (own_lenL (n := 1) rfl (by decide)) (g := (mkF m 22 #[rv th, rv pb, iv (0 : Int32), iv (1 : Int32), .unset] [(.ref pb), (.int (1 : Int32)), (.int (0 : Int32))])) rfl rfl (hb hby own_b3_d22)) ?_
  obtain ⟨_, _, ⟨T2, L2, k2, n2⟩, -, X2, ⟨Lc2, hQ2, l2, yy2, zz2⟩, st2⟩ := Jvm.LawKit.callS X1 hx (y := own_y5) hown (mvT hZ w_87) (mvT hZ w_88) (mvT hZ w_89) (mvT hZ w_90) (by decide) (backOf (W := 0) (own_ocf l Z a0 hw [] h0 n0) hZ w_90 w_89 (by decide) (by decide)) (g := (mkF m 23 #[rv th, rv pb, iv (0 : Int32), iv (1 : Int32), .unset] [(.int (1 : Int32)), (.int (1 : Int32)), (.int (0 : Int32))])) rfl (by rw [hml]; rfl) (argsL := [(.int (0 : Int32)), (.int (1 : Int32)), (.int (1 : Int32))]) (rest := []) (lenOf own_pd5 rfl) rfl (by show 2 * 0 + _ ≤ _; exact own_b rfl) (hb hby own_b3_d23) (fun _ _ => ⟨rfl, e1, (own_b rfl : 0 + 0 ≤ _), (own_b rfl : 0 + 0 ≤ _)⟩)
  dsimp only [Pt.U, Pt.locs, Pt.cells, Pt.slots] at X2 l2 yy2 zz2 st2 hQ2
  obtain ⟨rfl, Nq2, eq2⟩ := hQ2
  obtain ⟨L2, X2, N2⟩ := own_absC (K := 0) (K' := 0) X2 l2 yy2 zz2 N1 Nq2
  have e2 : T2.heap = h0 := eq2
  refine own_go (B := (T2.setTop (mkF m 26 #[rv th, rv pb, iv (0 : Int32), iv (1 : Int32), .unset] [(.int (0 : Int32))]))) st2 ?_
  refine own_go (B := (T2.setTop (mkF m 27 #[rv th, rv pb, iv (0 : Int32), iv (1 : Int32), .unset] []))) (fun t k => XS.pop X2.here hx rfl (hb hby own_b3_d26) rfl rfl k) ?_
  refine own_go (B := (T2.setTop (mkF m 28 #[rv th, rv pb, iv (0 : Int32), iv (1 : Int32), .unset] [(.int (1 : Int32))]))) (fun t k => XS.iloadN X2.here hx rfl (hb hby own_b3_d27) rfl k) ?_
  have hc28 : ¬ (1 : Int32) = (0 : Int32) := (by decide)
  refine own_ifY X2 hx (hb hby own_b3_d28) (pc' := 52) (by decide) (by decide) hc28 ?_
  refine own_go (B := (T2.setTop (mkF m 53 #[rv th, rv pb, iv (0 : Int32), iv (1 : Int32), .unset] [(.ref pb)]))) (fun t k => XS.aloadN X2.here hx rfl (hb hby own_b3_d52) rfl rfl k) ?_
  refine own_go (B := (T2.setTop (mkF m 54 #[rv th, rv pb, iv (0 : Int32), iv (1 : Int32), .unset] [(.int (0 : Int32)), (.ref pb)]))) (fun t k => XS.iloadN X2.here hx rfl (hb hby own_b3_d53) rfl k) ?_
  refine own_go (B := (T2.setTop (mkF m 55 #[rv th, rv pb, iv (0 : Int32), iv (1 : Int32), .unset] [(.int px)]))) (own_ldB X2 hx hZ e2 V0 (v := (.int px)) (by decide) rfl (g := (mkF m 54 #[rv th, rv pb, iv (0 : Int32), iv (1 : Int32), .unset] [(.int (0 : Int32)), (.ref pb)])) rfl rfl (hb hby own_b3_d54)) ?_
  refine own_go (B := (T2.setTop (mkF m 57 #[rv th, rv pb, iv (0 : Int32), iv (1 : Int32), iv px] []))) (fun t k => XS.istore X2.here hx rfl (hb hby own_b3_d55) rfl (l' := #[rv th, rv pb, iv (0 : Int32), iv (1 : Int32), iv px]) rfl k) ?_
  refine own_go (B := (T2.setTop (mkF m 59 #[rv th, rv pb, iv (0 : Int32), iv (1 : Int32), iv px] [(.int px)]))) (fun t k => XS.iload X2.here hx rfl (hb hby own_b3_d57) rfl k) ?_
  refine own_if X2 hx (hb hby own_b3_d59) (pc' := 82) (pn := 62) (by decide) (by decide) rfl (fun (hc59 : ¬ px < (0 : Int32)) => ?_) (fun (hc59 : px < (0 : Int32)) => ?_)
  · refine own_go (B := (T2.setTop (mkF m 83 #[rv th, rv pb, iv (0 : Int32), iv (1 : Int32), iv px] [(.ref th)]))) (fun t k => XS.aloadN X2.here hx rfl (hb hby own_b3_d82) rfl rfl k) ?_
    refine own_go (B := (T2.setTop (mkF m 85 #[rv th, rv pb, iv (0 : Int32), iv (1 : Int32), iv px] [(.int px), (.ref th)]))) (fun t k => XS.iload X2.here hx rfl (hb hby own_b3_d83) rfl k) ?_
    refine own_go (B := (T2.setTop (mkF m 86 #[rv th, rv pb, iv (0 : Int32), iv (1 : Int32), iv px] [(.ref pb), (.int px), (.ref th)]))) (fun t k => XS.aloadN X2.here hx rfl (hb hby own_b3_d85) rfl rfl k) ?_
    refine own_go (B := (T2.setTop (mkF m 87 #[rv th, rv pb, iv (0 : Int32), iv (1 : Int32), iv px] [(.int (0 : Int32)), (.ref pb), (.int px), (.ref th)]))) (fun t k => XS.iloadN X2.here hx rfl (hb hby own_b3_d86) rfl k) ?_
    refine own_go (B := (T2.setTop (mkF m 88 #[rv th, rv pb, iv (0 : Int32), iv (1 : Int32), iv px] [(.int (1 : Int32)), (.int (0 : Int32)), (.ref pb), (.int px), (.ref th)]))) (fun t k => XS.iloadN X2.here hx rfl (hb hby own_b3_d87) rfl k) ?_
    obtain ⟨_, _, ⟨T3, L3, k3, n3⟩, -, X3, ⟨Lc3, hQ3, l3, yy3, zz3⟩, st3⟩ := Jvm.LawKit.callS X2 hx (y := own_y6) hown (mvT hZ w_95) (mvT hZ w_96) (mvT hZ w_54) (mvT hZ w_97) (by decide) (backOf (W := 1) (own_sl l Z a0 hw [] px pb zz zm h0 n0 Z0 hc59 ZS ZE ZF ZV) hZ w_97 w_54 (by decide) (by decide)) (g := (mkF m 88 #[rv th, rv pb, iv (0 : Int32), iv (1 : Int32), iv px] [(.int (1 : Int32)), (.int (0 : Int32)), (.ref pb), (.int px), (.ref th)])) rfl (by rw [hml]; rfl) (argsL := [(.int px), (.ref pb), (.int (0 : Int32)), (.int (1 : Int32))]) (rest := [(.ref th)]) (lenOf own_pd6 rfl) rfl (by show 2 * 0 + _ ≤ _; exact own_b rfl) (hb hby own_b3_d88) (fun _ _ => ⟨rfl, e2, (own_b rfl : 0 + 1 ≤ _), (own_b rfl : 0 + 1 ≤ _)⟩)
    dsimp only [Pt.U, Pt.locs, Pt.cells, Pt.slots] at X3 l3 yy3 zz3 st3 hQ3
    obtain ⟨b3, Lm3, rfl, Nq3, K3, gv3, gl3⟩ := hQ3
    obtain ⟨L3, X3, N3⟩ := own_absC (K := 1) (K' := 1) X3 l3 yy3 zz3 N2 Nq3
    have F4 : n0 ≤ T3.heap.size := Nat.le_trans Z0 K3.1
    have F5 := Exa.keep E0 K3
    have F6 := Keep.trans K0 K3 all0
    have F7 := Fld.keep F9000 K3 nin0
    have F8 := Fld.keep F9001 K3 nin0
    have F9 := own_Ar_keep V0 K3 nin0
    have F10 := own_sta_keep ZS K3 ns0
    have F11 := Exa.keep ZE K3
    have F12 := Fld.keep ZF K3 nin0
    have F13 := own_Ar_keep ZV K3 nin0
    have nq3 := own_Ar_ne F5 w_53 gv3
    refine own_go (B := (T3.setTop (mkF m 91 #[rv th, rv pb, iv (0 : Int32), iv (1 : Int32), iv px] [(.ref b3), (.ref th)]))) st3 ?_
    obtain ⟨T14, h14, X14, e14, W14, st14⟩ := putF X3 hx hZ hown (host := "") (Or.inl w_99) Via.refl rfl F7 F5 (Or.inr ⟨w_100, rfl, hnm⟩) w_53 (ty := (.array .int)) (by decide) rfl rfl (g := (mkF m 91 #[rv th, rv pb, iv (0 : Int32), iv (1 : Int32), iv px] [(.ref b3), (.ref th)])) rfl rfl (hb hby own_b3_d91)
    refine own_go (B := (T14.setTop (mkF m 94 #[rv th, rv pb, iv (0 : Int32), iv (1 : Int32), iv px] []))) st14 ?_
    obtain ⟨L14, X14, N14⟩ := own_abs X14 (Fr.snoc X14 N3 g0)
    have F15 : n0 ≤ h14.size := by rw [W14.size]; exact F4
    have F16 := Exa.wr W14 F5
    have F17 := Keep.wr F6 W14 (Or.inl (List.mem_of_getElem? (i := 0) rfl))
    have F18 := Fld.same W14 F7
    have F19 := Fld.other W14 F8 (Or.inr (slot_ne (t := .int) (t' := (.array .int)) (Or.inr w_102) (Or.inr w_100) (by decide) (by decide) (by decide)))
    have F20 := own_Ar_other gv3 W14 (Ne.symm nq3)
    refine own_go (B := (T14.setTop (mkF m 95 #[rv th, rv pb, iv (0 : Int32), iv (1 : Int32), iv px] [(.ref th)]))) (fun t k => XS.aloadN X14.here hx rfl (hb hby own_b3_d94) rfl rfl k) ?_
    refine own_go (B := (T14.setTop (mkF m 96 #[rv th, rv pb, iv (0 : Int32), iv (1 : Int32), iv px] [(.ref th), (.ref th)]))) (fun t k => XS.aloadN X14.here hx rfl (hb hby own_b3_d95) rfl rfl k) ?_
    obtain ⟨T21, X21, e21, st21⟩ := getF X14 hx hZ hown (host := "") (Or.inl w_99) Via.refl e14 F18 (g := (mkF m 96 #[rv th, rv pb, iv (0 : Int32), iv (1 : Int32), iv px] [(.ref th), (.ref th)])) rfl rfl (hb hby own_b3_d96)
    refine own_go (B := (T21.setTop (mkF m 99 #[rv th, rv pb, iv (0 : Int32), iv (1 : Int32), iv px] [(.ref b3), (.ref th)]))) st21 ?_
    refine own_go (B := (T21.setTop (mkF m 100 #[rv th, rv pb, iv (0 : Int32), iv (1 : Int32), iv px] [(.int (Lm3.length.toInt32)), (.ref th)]))) (own_alen X21 hx hZ e21 F20 (n := (Lm3.length.toInt32)) rfl (g := (mkF m 99 #[rv th, rv pb, iv (0 : Int32), iv (1 : Int32), iv px] [(.ref b3), (.ref th)])) rfl rfl (hb hby own_b3_d99)) ?_
    refine own_if X21 hx (hb hby own_b3_d100) (pc' := 107) (pn := 103) (by decide) (by decide) rfl (fun (hc100 : ¬ (Lm3.length.toInt32) = (0 : Int32)) => ?_) (fun (hc100 : (Lm3.length.toInt32) = (0 : Int32)) => ?_)
    · refine own_go (B := (T21.setTop (mkF m 108 #[rv th, rv pb, iv (0 : Int32), iv (1 : Int32), iv px] [(.int (1 : Int32)), (.ref th)]))) (fun t k => own_iconst (v := (1 : Int32)) X21.here hx rfl (hb hby own_b3_d107) (by decide) k) ?_
      obtain ⟨T22, h22, X22, e22, W22, st22⟩ := putF X21 hx hZ hown (host := "") (Or.inl w_101) Via.refl e21 F19 F16 (Or.inr ⟨w_102, rfl, hnm⟩) w_53 (ty := .int) (by decide) rfl rfl (g := (mkF m 108 #[rv th, rv pb, iv (0 : Int32), iv (1 : Int32), iv px] [(.int (1 : Int32)), (.ref th)])) rfl rfl (hb hby own_b3_d108)
      refine own_go (B := (T22.setTop (mkF m 111 #[rv th, rv pb, iv (0 : Int32), iv (1 : Int32), iv px] []))) st22 ?_
      obtain ⟨L22, X22, N22⟩ := own_abs X22 (Fr.snoc X22 N14 g0)
      have F23 : n0 ≤ h22.size := by rw [W22.size]; exact F15
      have F24 := Exa.wr W22 F16
      have F25 := Keep.wr F17 W22 (Or.inl (List.mem_of_getElem? (i := 0) rfl))
      have F26 := Fld.other W22 F18 (Or.inr (slot_ne (t := (.array .int)) (t' := .int) (Or.inr w_100) (Or.inr w_102) (by decide) (by decide) (by decide)))
      have F27 := Fld.same W22 F19
      have F28 := own_Ar_other F20 W22 (Ne.symm nq3)
      refine own_go (B := (T22.setTop (mkF m 112 #[rv th, rv pb, iv (0 : Int32), iv (1 : Int32), iv px] [(.ref th)]))) (fun t k => XS.aloadN X22.here hx rfl (hb hby own_b3_d111) rfl rfl k) ?_
      obtain ⟨T29, X29, e29, st29⟩ := getF X22 hx hZ hown (host := "") (Or.inl w_99) Via.refl e22 F26 (g := (mkF m 112 #[rv th, rv pb, iv (0 : Int32), iv (1 : Int32), iv px] [(.ref th)])) rfl rfl (hb hby own_b3_d112)
      refine own_go (B := (T29.setTop (mkF m 115 #[rv th, rv pb, iv (0 : Int32), iv (1 : Int32), iv px] [(.ref b3)]))) st29 ?_
      refine own_go (B := (T29.setTop (mkF m 116 #[rv th, rv pb, iv (0 : Int32), iv (1 : Int32), iv px] [(.int (Lm3.length.toInt32))]))) (own_alen X29 hx hZ e29 F28 (n := (Lm3.length.toInt32)) rfl (g := (mkF m 115 #[rv th, rv pb, iv (0 : Int32), iv (1 : Int32), iv px] [(.ref b3)])) rfl rfl (hb hby own_b3_d115)) ?_
      have lc30 := X29.ldcInt hx hown (v := (67108864 : Int32)) (mvT hZ w_103) (g := (mkF m 116 #[rv th, rv pb, iv (0 : Int32), iv (1 : Int32), iv px] [(.int (Lm3.length.toInt32))])) rfl (hb hby own_b3_d116)
      refine own_go (B := (T29.setTop (mkF m 118 #[rv th, rv pb, iv (0 : Int32), iv (1 : Int32), iv px] [(.int (67108864 : Int32)), (.int (Lm3.length.toInt32))]))) lc30 ?_
      have hc118 : (Lm3.length.toInt32) < (67108864 : Int32) := (own_lm gl3)
      refine own_icmpY X29 hx (hb hby own_b3_d118) (pc' := 125) (by decide) (by decide) hc118 ?_
      exact own_retV X29 hx hlk Bd.returns (hb hby own_b3_d125) (own_b rfl) (own_b rfl) (Q := (own_b3_Q Z th pb px zz zm h0 n0)) (by rw [e29]; exact ⟨rfl, N22, F25⟩)
    · refine own_go (B := (T21.setTop (mkF m 104 #[rv th, rv pb, iv (0 : Int32), iv (1 : Int32), iv px] [(.int (0 : Int32)), (.ref th)]))) (fun t k => own_iconst (v := (0 : Int32)) X21.here hx rfl (hb hby own_b3_d103) (by decide) k) ?_
      refine own_go (B := (T21.setTop (mkF m 108 #[rv th, rv pb, iv (0 : Int32), iv (1 : Int32), iv px] [(.int (0 : Int32)), (.ref th)]))) (fun t k => XS.goto X21.here hx rfl (pc0 := 104) (pc' := 108) rfl (hb hby own_b3_d104) (by decide) (by decide) k) ?_
      obtain ⟨T31, h31, X31, e31, W31, st31⟩ := putF X21 hx hZ hown (host := "") (Or.inl w_101) Via.refl e21 F19 F16 (Or.inr ⟨w_102, rfl, hnm⟩) w_53 (ty := .int) (by decide) rfl rfl (g := (mkF m 108 #[rv th, rv pb, iv (0 : Int32), iv (1 : Int32), iv px] [(.int (0 : Int32)), (.ref th)])) rfl rfl (hb hby own_b3_d108)
      refine own_go (B := (T31.setTop (mkF m 111 #[rv th, rv pb, iv (0 : Int32), iv (1 : Int32), iv px] []))) st31 ?_
      obtain ⟨L31, X31, N31⟩ := own_abs X31 (Fr.snoc X31 N14 g0)
      have F32 : n0 ≤ h31.size := by rw [W31.size]; exact F15
      have F33 := Exa.wr W31 F16
      have F34 := Keep.wr F17 W31 (Or.inl (List.mem_of_getElem? (i := 0) rfl))
      have F35 := Fld.other W31 F18 (Or.inr (slot_ne (t := (.array .int)) (t' := .int) (Or.inr w_100) (Or.inr w_102) (by decide) (by decide) (by decide)))
      have F36 := Fld.same W31 F19
      have F37 := own_Ar_other F20 W31 (Ne.symm nq3)
      refine own_go (B := (T31.setTop (mkF m 112 #[rv th, rv pb, iv (0 : Int32), iv (1 : Int32), iv px] [(.ref th)]))) (fun t k => XS.aloadN X31.here hx rfl (hb hby own_b3_d111) rfl rfl k) ?_
      obtain ⟨T38, X38, e38, st38⟩ := getF X31 hx hZ hown (host := "") (Or.inl w_99) Via.refl e31 F35 (g := (mkF m 112 #[rv th, rv pb, iv (0 : Int32), iv (1 : Int32), iv px] [(.ref th)])) rfl rfl (hb hby own_b3_d112)
      refine own_go (B := (T38.setTop (mkF m 115 #[rv th, rv pb, iv (0 : Int32), iv (1 : Int32), iv px] [(.ref b3)]))) st38 ?_
      refine own_go (B := (T38.setTop (mkF m 116 #[rv th, rv pb, iv (0 : Int32), iv (1 : Int32), iv px] [(.int (Lm3.length.toInt32))]))) (own_alen X38 hx hZ e38 F37 (n := (Lm3.length.toInt32)) rfl (g := (mkF m 115 #[rv th, rv pb, iv (0 : Int32), iv (1 : Int32), iv px] [(.ref b3)])) rfl rfl (hb hby own_b3_d115)) ?_
      have lc39 := X38.ldcInt hx hown (v := (67108864 : Int32)) (mvT hZ w_103) (g := (mkF m 116 #[rv th, rv pb, iv (0 : Int32), iv (1 : Int32), iv px] [(.int (Lm3.length.toInt32))])) rfl (hb hby own_b3_d116)
      refine own_go (B := (T38.setTop (mkF m 118 #[rv th, rv pb, iv (0 : Int32), iv (1 : Int32), iv px] [(.int (67108864 : Int32)), (.int (Lm3.length.toInt32))]))) lc39 ?_
      have hc118 : (Lm3.length.toInt32) < (67108864 : Int32) := (own_lm gl3)
      refine own_icmpY X38 hx (hb hby own_b3_d118) (pc' := 125) (by decide) (by decide) hc118 ?_
      exact own_retV X38 hx hlk Bd.returns (hb hby own_b3_d125) (own_b rfl) (own_b rfl) (Q := (own_b3_Q Z th pb px zz zm h0 n0)) (by rw [e38]; exact ⟨rfl, N31, F34⟩)
  · refine own_go (B := (T2.setTop (mkF m 63 #[rv th, rv pb, iv (0 : Int32), iv (1 : Int32), iv px] [(.ref th)]))) (fun t k => XS.aloadN X2.here hx rfl (hb hby own_b3_d62) rfl rfl k) ?_
    refine own_go (B := (T2.setTop (mkF m 65 #[rv th, rv pb, iv (0 : Int32), iv (1 : Int32), iv px] [(.int px), (.ref th)]))) (fun t k => XS.iload X2.here hx rfl (hb hby own_b3_d63) rfl k) ?_
    refine own_go (B := (T2.setTop (mkF m 66 #[rv th, rv pb, iv (0 : Int32), iv (1 : Int32), iv px] [(.ref pb), (.int px), (.ref th)]))) (fun t k => XS.aloadN X2.here hx rfl (hb hby own_b3_d65) rfl rfl k) ?_
    refine own_go (B := (T2.setTop (mkF m 67 #[rv th, rv pb, iv (0 : Int32), iv (1 : Int32), iv px] [(.int (0 : Int32)), (.ref pb), (.int px), (.ref th)]))) (fun t k => XS.iloadN X2.here hx rfl (hb hby own_b3_d66) rfl k) ?_
    refine own_go (B := (T2.setTop (mkF m 68 #[rv th, rv pb, iv (0 : Int32), iv (1 : Int32), iv px] [(.int (1 : Int32)), (.int (0 : Int32)), (.ref pb), (.int px), (.ref th)]))) (fun t k => XS.iloadN X2.here hx rfl (hb hby own_b3_d67) rfl k) ?_
    obtain ⟨_, _, ⟨T40, L40, k40, n40⟩, -, X40, ⟨Lc40, hQ40, l40, yy40, zz40⟩, st40⟩ := Jvm.LawKit.callS X2 hx (y := own_y7) hown (mvT hZ w_110) (mvT hZ w_111) (mvT hZ w_54) (mvT hZ w_112) (by decide) (backOf (W := 1) (own_mp l Z a0 hw [] px pb zz zm h0 n0 Z0 hc59 ZS ZE ZF ZV) hZ w_112 w_54 (by decide) (by decide)) (g := (mkF m 68 #[rv th, rv pb, iv (0 : Int32), iv (1 : Int32), iv px] [(.int (1 : Int32)), (.int (0 : Int32)), (.ref pb), (.int px), (.ref th)])) rfl (by rw [hml]; rfl) (argsL := [(.int px), (.ref pb), (.int (0 : Int32)), (.int (1 : Int32))]) (rest := [(.ref th)]) (lenOf own_pd6 rfl) rfl (by show 2 * 0 + _ ≤ _; exact own_b rfl) (hb hby own_b3_d68) (fun _ _ => ⟨rfl, e2, (own_b rfl : 0 + 1 ≤ _), (own_b rfl : 0 + 1 ≤ _)⟩)
    dsimp only [Pt.U, Pt.locs, Pt.cells, Pt.slots] at X40 l40 yy40 zz40 st40 hQ40
    obtain ⟨b40, Lm40, rfl, Nq40, K40, gv40, gl40⟩ := hQ40
    obtain ⟨L40, X40, N40⟩ := own_absC (K := 1) (K' := 1) X40 l40 yy40 zz40 N2 Nq40
    have F41 : n0 ≤ T40.heap.size := Nat.le_trans Z0 K40.1
    have F42 := Exa.keep E0 K40
    have F43 := Keep.trans K0 K40 all0
    have F44 := Fld.keep F9000 K40 nin0
    have F45 := Fld.keep F9001 K40 nin0
    have F46 := own_Ar_keep V0 K40 nin0
    have F47 := own_sta_keep ZS K40 ns0
    have F48 := Exa.keep ZE K40
    have F49 := Fld.keep ZF K40 nin0
    have F50 := own_Ar_keep ZV K40 nin0
    have nq40 := own_Ar_ne F42 w_53 gv40
    refine own_go (B := (T40.setTop (mkF m 71 #[rv th, rv pb, iv (0 : Int32), iv (1 : Int32), iv px] [(.ref b40), (.ref th)]))) st40 ?_
    obtain ⟨T51, h51, X51, e51, W51, st51⟩ := putF X40 hx hZ hown (host := "") (Or.inl w_99) Via.refl rfl F44 F42 (Or.inr ⟨w_100, rfl, hnm⟩) w_53 (ty := (.array .int)) (by decide) rfl rfl (g := (mkF m 71 #[rv th, rv pb, iv (0 : Int32), iv (1 : Int32), iv px] [(.ref b40), (.ref th)])) rfl rfl (hb hby own_b3_d71)
    refine own_go (B := (T51.setTop (mkF m 74 #[rv th, rv pb, iv (0 : Int32), iv (1 : Int32), iv px] []))) st51 ?_
    obtain ⟨L51, X51, N51⟩ := own_abs X51 (Fr.snoc X51 N40 g0)
    have F52 : n0 ≤ h51.size := by rw [W51.size]; exact F41
    have F53 := Exa.wr W51 F42
    have F54 := Keep.wr F43 W51 (Or.inl (List.mem_of_getElem? (i := 0) rfl))
    have F55 := Fld.same W51 F44
    have F56 := Fld.other W51 F45 (Or.inr (slot_ne (t := .int) (t' := (.array .int)) (Or.inr w_102) (Or.inr w_100) (by decide) (by decide) (by decide)))
    have F57 := own_Ar_other gv40 W51 (Ne.symm nq40)
    refine own_go (B := (T51.setTop (mkF m 75 #[rv th, rv pb, iv (0 : Int32), iv (1 : Int32), iv px] [(.ref th)]))) (fun t k => XS.aloadN X51.here hx rfl (hb hby own_b3_d74) rfl rfl k) ?_
    refine own_go (B := (T51.setTop (mkF m 76 #[rv th, rv pb, iv (0 : Int32), iv (1 : Int32), iv px] [(.int (-1 : Int32)), (.ref th)]))) (fun t k => own_iconst (v := (-1 : Int32)) X51.here hx rfl (hb hby own_b3_d75) (by decide) k) ?_
    obtain ⟨T58, h58, X58, e58, W58, st58⟩ := putF X51 hx hZ hown (host := "") (Or.inl w_101) Via.refl e51 F56 F53 (Or.inr ⟨w_102, rfl, hnm⟩) w_53 (ty := .int) (by decide) rfl rfl (g := (mkF m 76 #[rv th, rv pb, iv (0 : Int32), iv (1 : Int32), iv px] [(.int (-1 : Int32)), (.ref th)])) rfl rfl (hb hby own_b3_d76)
    refine own_go (B := (T58.setTop (mkF m 79 #[rv th, rv pb, iv (0 : Int32), iv (1 : Int32), iv px] []))) st58 ?_
    obtain ⟨L58, X58, N58⟩ := own_abs X58 (Fr.snoc X58 N51 g0)
    have F59 : n0 ≤ h58.size := by rw [W58.size]; exact F52
    have F60 := Exa.wr W58 F53
    have F61 := Keep.wr F54 W58 (Or.inl (List.mem_of_getElem? (i := 0) rfl))
    have F62 := Fld.other W58 F55 (Or.inr (slot_ne (t := (.array .int)) (t' := .int) (Or.inr w_100) (Or.inr w_102) (by decide) (by decide) (by decide)))
    have F63 := Fld.same W58 F56
    have F64 := own_Ar_other F57 W58 (Ne.symm nq40)
    refine own_go (B := (T58.setTop (mkF m 111 #[rv th, rv pb, iv (0 : Int32), iv (1 : Int32), iv px] []))) (fun t k => XS.goto X58.here hx rfl (pc0 := 79) (pc' := 111) rfl (hb hby own_b3_d79) (by decide) (by decide) k) ?_
    refine own_go (B := (T58.setTop (mkF m 112 #[rv th, rv pb, iv (0 : Int32), iv (1 : Int32), iv px] [(.ref th)]))) (fun t k => XS.aloadN X58.here hx rfl (hb hby own_b3_d111) rfl rfl k) ?_
    obtain ⟨T65, X65, e65, st65⟩ := getF X58 hx hZ hown (host := "") (Or.inl w_99) Via.refl e58 F62 (g := (mkF m 112 #[rv th, rv pb, iv (0 : Int32), iv (1 : Int32), iv px] [(.ref th)])) rfl rfl (hb hby own_b3_d112)
    refine own_go (B := (T65.setTop (mkF m 115 #[rv th, rv pb, iv (0 : Int32), iv (1 : Int32), iv px] [(.ref b40)]))) st65 ?_
    refine own_go (B := (T65.setTop (mkF m 116 #[rv th, rv pb, iv (0 : Int32), iv (1 : Int32), iv px] [(.int (Lm40.length.toInt32))]))) (own_alen X65 hx hZ e65 F64 (n := (Lm40.length.toInt32)) rfl (g := (mkF m 115 #[rv th, rv pb, iv (0 : Int32), iv (1 : Int32), iv px] [(.ref b40)])) rfl rfl (hb hby own_b3_d115)) ?_
    have lc66 := X65.ldcInt hx hown (v := (67108864 : Int32)) (mvT hZ w_103) (g := (mkF m 116 #[rv th, rv pb, iv (0 : Int32), iv (1 : Int32), iv px] [(.int (Lm40.length.toInt32))])) rfl (hb hby own_b3_d116)
    refine own_go (B := (T65.setTop (mkF m 118 #[rv th, rv pb, iv (0 : Int32), iv (1 : Int32), iv px] [(.int (67108864 : Int32)), (.int (Lm40.length.toInt32))]))) lc66 ?_
    have hc118 : (Lm40.length.toInt32) < (67108864 : Int32) := (own_lm gl40)
    refine own_icmpY X65 hx (hb hby own_b3_d118) (pc' := 125) (by decide) (by decide) hc118 ?_
    exact own_retV X65 hx hlk Bd.returns (hb hby own_b3_d125) (own_b rfl) (own_b rfl) (Q := (own_b3_Q Z th pb px zz zm h0 n0)) (by rw [e65]; exact ⟨rfl, N58, F61⟩)

theorem own_b1_d0 : decode jdk_2097_method_2_code 0 = .ok (.aload_n 0, 1) := by decide +kernel
theorem own_b1_d1 : decode jdk_2097_method_2_code 1 = .ok (.aload_n 1, 1) := by decide +kernel
theorem own_b1_d2 : decode jdk_2097_method_2_code 2 = .ok (.iconst 0, 1) := by decide +kernel
theorem own_b1_d3 : decode jdk_2097_method_2_code 3 = .ok (.aload_n 1, 1) := by decide +kernel
theorem own_b1_d4 : decode jdk_2097_method_2_code 4 = .ok (.arraylength, 1) := by decide +kernel
theorem own_b1_d5 : decode jdk_2097_method_2_code 5 = .ok (.invokespecial 47, 3) := by decide +kernel
theorem own_b1_d8 : decode jdk_2097_method_2_code 8 = .ok (.return_, 1) := by decide +kernel
theorem own_b1_pn : plainName "java/math/BigInteger" = true := by first | (simp [plainName, overriddenIn]; done) | decide +kernel
theorem own_b1_ef (m : MethodId) (th : Addr) (pb : Addr) : entryFrame m #[(.ref th), (.ref pb)] 2 = mkF m 0 #[rv th, rv pb] [] := by first | (simp [entryFrame, mkF, argsToLocals, Value.category]; done) | rfl
def own_b1_Q (Z : State) (th : Addr) (pb : Addr) (px : Int32) (zz zm : Addr) (h0 : Heap) (n0 : Nat) (v : Option Value) (h : Heap) (L : List Loc) : Prop := v = none ∧ Fr n0 L ∧ Keep h0 h [th]
set_option maxRecDepth 65536 in
set_option maxHeartbeats 40000000 in
theorem own_b1 (l : Launch) (Z : State) (a0 : Array Value) (hw : ∀ d ∈ tables_1, d.before a0 Z = true) (ws : List Jvm.Cond) (th : Addr) (pb : Addr) (px : Int32) (zz zm : Addr) (h0 : Heap) (n0 : Nat) (Z0 : n0 ≤ h0.size) (E0 : Exa Z h0 th "java/math/BigInteger") (g0 : n0 ≤ th) (F9000 : Fld Z h0 th "java/math/BigInteger" "mag" "[I" .null) (F9001 : Fld Z h0 th "java/math/BigInteger" "signum" "I" (.int (0 : Int32))) (V0 : own_Ar Z h0 pb .byte [(.int px)]) (ZS : Sta Z h0 "java/math/BigInteger" "ZERO" "Ljava/math/BigInteger;" (.ref zz)) (ZE : Exa Z h0 zz "java/math/BigInteger") (ZF : Fld Z h0 zz "java/math/BigInteger" "mag" "[I" (.ref zm)) (ZV : own_Ar Z h0 zm .int []) :
    MetFree l own_y13 (head1 (Jvm.Cond.code own_y13 jdk_2097_method_2_code 2 none :: ws) ({ frames := 3, cells := 1, slots := 1, locals := 45 } : Room)) (fun a U => a = #[(.ref th), (.ref pb)] ∧ Z.Warmed39 U.vm ∧ U.heap = h0) (fun _ _ _ _ _ => True) (fun _ U o U' => ∃ v L, o = .returned v ∧ (own_b1_Q Z th pb px zz zm h0 n0) v U'.heap L ∧ FrameEnd U o U' L ({ frames := 3, cells := 1, slots := 1, locals := 45 } : Room).cells ({ frames := 3, cells := 1, slots := 1, locals := 45 } : Room).slots) := by
  refine MetFree.of_bodySF (plainFor_of_name own_b1_pn) hisR ?_
  intro p e s m args below meth c s₁ Bd hml0 hP hK
  obtain ⟨rfl, hZ, hh⟩ := hP
  have hx := Bd.exec
  have hby := Bd.bytes
  have hml : c.maxLocals = 2 := hml0
  have hown : s.vm.findClass "java/math/BigInteger" = some m.cls := findClass_of_methodNamed Bd.named
  have hnm := (name_of_methodNamed Bd.named Bd.method).1
  have hlk : meth.locks = false := Bd.notSynchronized
  have X0 : Stand p l e ({ frames := 3, cells := 1, slots := 1, locals := 45 } : Room) s m #[(.ref th), (.ref pb)] below meth c s₁ [] 0 0 := Stand.of_body Bd
  have e0 : s₁.heap = h0 := by rw [← hh, Bd.state]; rfl
  have N0 := Fr.nil n0
  have w_54 := hw _ (List.mem_of_getElem? (l := tables_1) (i := 54) rfl)
  have w_76 := hw _ (List.mem_of_getElem? (l := tables_1) (i := 76) rfl)
  have w_77 := hw _ (List.mem_of_getElem? (l := tables_1) (i := 77) rfl)
  have w_79 := hw _ (List.mem_of_getElem? (l := tables_1) (i := 79) rfl)
  show own_G p.tables e below (fun o U' => ∃ v L, o = .returned v ∧ (own_b1_Q Z th pb px zz zm h0 n0) v U'.heap L ∧ FrameEnd s o U' L ({ frames := 3, cells := 1, slots := 1, locals := 45 } : Room).cells ({ frames := 3, cells := 1, slots := 1, locals := 45 } : Room).slots) (s₁.setTop (entryFrame m #[(.ref th), (.ref pb)] 2))
  refine own_go (B := s₁.setTop (mkF m 0 #[rv th, rv pb] [])) (fun t k => castTop (own_b1_ef m th pb) k) ?_
  have K0 := Keep.refl h0 [th]
  refine own_go (B := (s₁.setTop (mkF m 1 #[rv th, rv pb] [(.ref th)]))) (fun t k => XS.aloadN X0.here hx rfl (hb hby own_b1_d0) rfl rfl k) ?_
  refine own_go (B := (s₁.setTop (mkF m 2 #[rv th, rv pb] [(.ref pb), (.ref th)]))) (fun t k => XS.aloadN X0.here hx rfl (hb hby own_b1_d1) rfl rfl k) ?_
  refine own_go (B := (s₁.setTop (mkF m 3 #[rv th, rv pb] [(.int (0 : Int32)), (.ref pb), (.ref th)]))) (fun t k => own_iconst (v := (0 : Int32)) X0.here hx rfl (hb hby own_b1_d2) (by decide) k) ?_
  refine own_go (B := (s₁.setTop (mkF m 4 #[rv th, rv pb] [(.ref pb), (.int (0 : Int32)), (.ref pb), (.ref th)]))) (fun t k => XS.aloadN X0.here hx rfl (hb hby own_b1_d3) rfl rfl k) ?_
  refine own_go (B := (s₁.setTop (mkF m 5 #[rv th, rv pb] [(.int (1 : Int32)), (.int (0 : Int32)), (.ref pb), (.ref th)]))) (own_alen X0 hx hZ e0 V0 (n := (1 : Int32)) (own_lenL (n := 1) rfl (by decide)) (g := (mkF m 4 #[rv th, rv pb] [(.ref pb), (.int (0 : Int32)), (.ref pb), (.ref th)])) rfl rfl (hb hby own_b1_d4)) ?_
  obtain ⟨_, _, ⟨T1, L1, k1, n1⟩, -, X1, ⟨Lc1, hQ1, l1, yy1, zz1⟩, st1⟩ := X0.specialBack hx (y := own_y8) rfl hown (mvT hZ w_76) (mvT hZ w_77) (mvT hZ w_79) (by decide) (backOf (W := 0) (own_b3 l Z a0 hw [] th pb px zz zm h0 n0 Z0 E0 g0 F9000 F9001 V0 ZS ZE ZF ZV) hZ w_79 w_54 (by decide) (by decide)) (g := (mkF m 5 #[rv th, rv pb] [(.int (1 : Int32)), (.int (0 : Int32)), (.ref pb), (.ref th)])) rfl (by rw [hml]; rfl) (Steps.refl _) (a := th) (argsL := [(.ref pb), (.int (0 : Int32)), (.int (1 : Int32))]) (rest := []) (lenOf own_pd1 rfl) rfl (by show 2 * 0 + _ ≤ _; exact own_b rfl) (hb hby own_b1_d5) (fun _ _ => ⟨rfl, e0, (own_b rfl : 0 + 1 ≤ _), (own_b rfl : 0 + 1 ≤ _)⟩)
  dsimp only [Pt.U, Pt.locs, Pt.cells, Pt.slots] at X1 l1 yy1 zz1 st1 hQ1
  obtain ⟨rfl, Nq1, K1⟩ := hQ1
  obtain ⟨L1, X1, N1⟩ := own_absC (K := 1) (K' := 1) X1 l1 yy1 zz1 N0 Nq1
  have F2 : n0 ≤ T1.heap.size := Nat.le_trans Z0 K1.1
  have F3 := Exa.keep E0 K1
  have F4 := Keep.trans K0 K1 (allS (Or.inl (List.mem_of_getElem? (i := 0) rfl)) all0)
  refine own_tr (B := (T1.setTop (mkF m 8 #[rv th, rv pb] []))) st1 ?_
  exact own_retV X1 hx hlk Bd.returns (hb hby own_b1_d8) (own_b rfl) (own_b rfl) (Q := (own_b1_Q Z th pb px zz zm h0 n0)) ⟨rfl, N1, F4⟩

theorem own_ck4_d0 : decode jdk_65_method_131_code 0 = .ok (.iload_n 1, 1) := by decide +kernel
theorem own_ck4_d1 : decode jdk_65_method_131_code 1 = .ok (.iload_n 0, 1) := by decide +kernel
theorem own_ck4_d2 : decode jdk_65_method_131_code 2 = .ok (.if_icmp .ge 35, 3) := by decide +kernel
theorem own_ck4_d37 : decode jdk_65_method_131_code 37 = .ok (.return_, 1) := by decide +kernel
theorem own_ck4_pn : plainName "java/util/Arrays" = true := by first | (simp [plainName, overriddenIn]; done) | decide +kernel
theorem own_ck4_ef (m : MethodId) : entryFrame m #[(.int (4 : Int32)), (.int (5 : Int32))] 2 = mkF m 0 #[iv (4 : Int32), iv (5 : Int32)] [] := by first | (simp [entryFrame, mkF, argsToLocals, Value.category]; done) | rfl
def own_ck4_Q (Z : State) (h0 : Heap) (n0 : Nat) (v : Option Value) (h : Heap) (L : List Loc) : Prop := v = none ∧ Fr n0 L ∧ h = h0
set_option maxRecDepth 65536 in
set_option maxHeartbeats 40000000 in
theorem own_ck4 (l : Launch) (Z : State) (a0 : Array Value) (hw : ∀ d ∈ tables_1, d.before a0 Z = true) (ws : List Jvm.Cond) (h0 : Heap) (n0 : Nat) :
    MetFree l own_y9 (head1 (Jvm.Cond.code own_y9 jdk_65_method_131_code 2 none :: ws) ({ frames := 0, cells := 0, slots := 0, locals := 0 } : Room)) (fun a U => a = #[(.int (4 : Int32)), (.int (5 : Int32))] ∧ Z.Warmed39 U.vm ∧ U.heap = h0) (fun _ _ _ _ _ => True) (fun _ U o U' => ∃ v L, o = .returned v ∧ (own_ck4_Q Z h0 n0) v U'.heap L ∧ FrameEnd U o U' L ({ frames := 0, cells := 0, slots := 0, locals := 0 } : Room).cells ({ frames := 0, cells := 0, slots := 0, locals := 0 } : Room).slots) := by
  refine MetFree.of_bodySF (plainFor_of_name own_ck4_pn) hisR ?_
  intro p e s m args below meth c s₁ Bd hml0 hP hK
  obtain ⟨rfl, hZ, hh⟩ := hP
  have hx := Bd.exec
  have hby := Bd.bytes
  have hml : c.maxLocals = 2 := hml0
  have hown : s.vm.findClass "java/util/Arrays" = some m.cls := findClass_of_methodNamed Bd.named
  have hnm := (name_of_methodNamed Bd.named Bd.method).1
  have hlk : meth.locks = false := Bd.notSynchronized
  have X0 : Stand p l e ({ frames := 0, cells := 0, slots := 0, locals := 0 } : Room) s m #[(.int (4 : Int32)), (.int (5 : Int32))] below meth c s₁ [] 0 0 := Stand.of_body Bd
  have e0 : s₁.heap = h0 := by rw [← hh, Bd.state]; rfl
  have N0 := Fr.nil n0
  show own_G p.tables e below (fun o U' => ∃ v L, o = .returned v ∧ (own_ck4_Q Z h0 n0) v U'.heap L ∧ FrameEnd s o U' L ({ frames := 0, cells := 0, slots := 0, locals := 0 } : Room).cells ({ frames := 0, cells := 0, slots := 0, locals := 0 } : Room).slots) (s₁.setTop (entryFrame m #[(.int (4 : Int32)), (.int (5 : Int32))] 2))
  refine own_go (B := s₁.setTop (mkF m 0 #[iv (4 : Int32), iv (5 : Int32)] [])) (fun t k => castTop (own_ck4_ef m) k) ?_
  refine own_go (B := (s₁.setTop (mkF m 1 #[iv (4 : Int32), iv (5 : Int32)] [(.int (5 : Int32))]))) (fun t k => XS.iloadN X0.here hx rfl (hb hby own_ck4_d0) rfl k) ?_
  refine own_go (B := (s₁.setTop (mkF m 2 #[iv (4 : Int32), iv (5 : Int32)] [(.int (4 : Int32)), (.int (5 : Int32))]))) (fun t k => XS.iloadN X0.here hx rfl (hb hby own_ck4_d1) rfl k) ?_
  have hc2 : ¬ (5 : Int32) < (4 : Int32) := (by decide)
  refine own_icmpY X0 hx (hb hby own_ck4_d2) (pc' := 37) (by decide) (by decide) hc2 ?_
  exact own_retV X0 hx hlk Bd.returns (hb hby own_ck4_d37) (own_b rfl) (own_b rfl) (Q := (own_ck4_Q Z h0 n0)) ⟨rfl, N0, e0⟩

theorem own_cb4_d0 : decode jdk_65_method_133_code 0 = .ok (.iload_n 1, 1) := by decide +kernel
theorem own_cb4_d1 : decode jdk_65_method_133_code 1 = .ok (.iload_n 2, 1) := by decide +kernel
theorem own_cb4_d2 : decode jdk_65_method_133_code 2 = .ok (.invokestatic 343, 3) := by decide +kernel
theorem own_cb4_d5 : decode jdk_65_method_133_code 5 = .ok (.iload_n 2, 1) := by decide +kernel
theorem own_cb4_d6 : decode jdk_65_method_133_code 6 = .ok (.iload_n 1, 1) := by decide +kernel
theorem own_cb4_d7 : decode jdk_65_method_133_code 7 = .ok (.isub, 1) := by decide +kernel
theorem own_cb4_d8 : decode jdk_65_method_133_code 8 = .ok (.istore_n 3, 1) := by decide +kernel
theorem own_cb4_d9 : decode jdk_65_method_133_code 9 = .ok (.iload_n 3, 1) := by decide +kernel
theorem own_cb4_d10 : decode jdk_65_method_133_code 10 = .ok (.newarray .byte, 2) := by decide +kernel
theorem own_cb4_d12 : decode jdk_65_method_133_code 12 = .ok (.astore 4, 2) := by decide +kernel
theorem own_cb4_d14 : decode jdk_65_method_133_code 14 = .ok (.aload_n 0, 1) := by decide +kernel
theorem own_cb4_d15 : decode jdk_65_method_133_code 15 = .ok (.iload_n 1, 1) := by decide +kernel
theorem own_cb4_d16 : decode jdk_65_method_133_code 16 = .ok (.aload 4, 2) := by decide +kernel
theorem own_cb4_d18 : decode jdk_65_method_133_code 18 = .ok (.iconst 0, 1) := by decide +kernel
theorem own_cb4_d19 : decode jdk_65_method_133_code 19 = .ok (.aload_n 0, 1) := by decide +kernel
theorem own_cb4_d20 : decode jdk_65_method_133_code 20 = .ok (.arraylength, 1) := by decide +kernel
theorem own_cb4_d21 : decode jdk_65_method_133_code 21 = .ok (.iload_n 1, 1) := by decide +kernel
theorem own_cb4_d22 : decode jdk_65_method_133_code 22 = .ok (.isub, 1) := by decide +kernel
theorem own_cb4_d23 : decode jdk_65_method_133_code 23 = .ok (.iload_n 3, 1) := by decide +kernel
theorem own_cb4_d24 : decode jdk_65_method_133_code 24 = .ok (.invokestatic 304, 3) := by decide +kernel
theorem own_cb4_d27 : decode jdk_65_method_133_code 27 = .ok (.invokestatic 150, 3) := by decide +kernel
theorem own_cb4_d30 : decode jdk_65_method_133_code 30 = .ok (.aload 4, 2) := by decide +kernel
theorem own_cb4_d32 : decode jdk_65_method_133_code 32 = .ok (.areturn, 1) := by decide +kernel
theorem own_cb4_pn : plainName "java/util/Arrays" = true := by first | (simp [plainName, overriddenIn]; done) | decide +kernel
theorem own_cb4_ef (m : MethodId) (pb : Addr) : entryFrame m #[(.ref pb), (.int (4 : Int32)), (.int (5 : Int32))] 5 = mkF m 0 #[rv pb, iv (4 : Int32), iv (5 : Int32), .unset, .unset] [] := by first | (simp [entryFrame, mkF, argsToLocals, Value.category]; done) | rfl
def own_cb4_Q (Z : State) (pb : Addr) (lw px py : Int32) (h0 : Heap) (n0 : Nat) (v : Option Value) (h : Heap) (L : List Loc) : Prop := ∃ b, v = some (.ref b) ∧ Fr n0 L ∧ Keep h0 h [] ∧ h0.size ≤ b ∧ own_Ar Z h b .byte [(.int px)]
set_option maxRecDepth 65536 in
set_option maxHeartbeats 40000000 in
theorem own_cb4 (l : Launch) (Z : State) (a0 : Array Value) (hw : ∀ d ∈ tables_1, d.before a0 Z = true) (ws : List Jvm.Cond) (pb : Addr) (lw px py : Int32) (h0 : Heap) (n0 : Nat) (Z0 : n0 ≤ h0.size) (V0 : own_Ar Z h0 pb .byte [(.int (48 : Int32)), (.int lw), (.int (2 : Int32)), (.int (1 : Int32)), (.int px), (.int (2 : Int32)), (.int (1 : Int32)), (.int py)]) (hfl : fits .byte (.int lw) = true) (hfx : fits .byte (.int px) = true) (hfy : fits .byte (.int py) = true) :
    MetFree l own_y11 (head1 (Jvm.Cond.code own_y11 jdk_65_method_133_code 5 (some (.array .byte)) :: ws) ({ frames := 1, cells := 1, slots := 1, locals := 40 } : Room)) (fun a U => a = #[(.ref pb), (.int (4 : Int32)), (.int (5 : Int32))] ∧ Z.Warmed39 U.vm ∧ U.heap = h0) (fun _ _ _ _ _ => True) (fun _ U o U' => ∃ v L, o = .returned v ∧ (own_cb4_Q Z pb lw px py h0 n0) v U'.heap L ∧ FrameEnd U o U' L ({ frames := 1, cells := 1, slots := 1, locals := 40 } : Room).cells ({ frames := 1, cells := 1, slots := 1, locals := 40 } : Room).slots) := by
  refine MetFree.of_bodySF (plainFor_of_name own_cb4_pn) hisR ?_
  intro p e s m args below meth c s₁ Bd hml0 hP hK
  obtain ⟨rfl, hZ, hh⟩ := hP
  have hx := Bd.exec
  have hby := Bd.bytes
  have hml : c.maxLocals = 5 := hml0
  have hown : s.vm.findClass "java/util/Arrays" = some m.cls := findClass_of_methodNamed Bd.named
  have hnm := (name_of_methodNamed Bd.named Bd.method).1
  have hlk : meth.locks = false := Bd.notSynchronized
  have X0 : Stand p l e ({ frames := 1, cells := 1, slots := 1, locals := 40 } : Room) s m #[(.ref pb), (.int (4 : Int32)), (.int (5 : Int32))] below meth c s₁ [] 0 0 := Stand.of_body Bd
  have e0 : s₁.heap = h0 := by rw [← hh, Bd.state]; rfl
  have N0 := Fr.nil n0
  have w_1 := hw _ (List.mem_of_getElem? (l := tables_1) (i := 1) rfl)
  have w_57 := hw _ (List.mem_of_getElem? (l := tables_1) (i := 57) rfl)
  have w_62 := hw _ (List.mem_of_getElem? (l := tables_1) (i := 62) rfl)
  have w_63 := hw _ (List.mem_of_getElem? (l := tables_1) (i := 63) rfl)
  have w_64 := hw _ (List.mem_of_getElem? (l := tables_1) (i := 64) rfl)
  have w_65 := hw _ (List.mem_of_getElem? (l := tables_1) (i := 65) rfl)
  have w_66 := hw _ (List.mem_of_getElem? (l := tables_1) (i := 66) rfl)
  have w_67 := hw _ (List.mem_of_getElem? (l := tables_1) (i := 67) rfl)
  have w_68 := hw _ (List.mem_of_getElem? (l := tables_1) (i := 68) rfl)
  have w_69 := hw _ (List.mem_of_getElem? (l := tables_1) (i := 69) rfl)
  have w_70 := hw _ (List.mem_of_getElem? (l := tables_1) (i := 70) rfl)
  have w_71 := hw _ (List.mem_of_getElem? (l := tables_1) (i := 71) rfl)
  have w_72 := hw _ (List.mem_of_getElem? (l := tables_1) (i := 72) rfl)
  show own_G p.tables e below (fun o U' => ∃ v L, o = .returned v ∧ (own_cb4_Q Z pb lw px py h0 n0) v U'.heap L ∧ FrameEnd s o U' L ({ frames := 1, cells := 1, slots := 1, locals := 40 } : Room).cells ({ frames := 1, cells := 1, slots := 1, locals := 40 } : Room).slots) (s₁.setTop (entryFrame m #[(.ref pb), (.int (4 : Int32)), (.int (5 : Int32))] 5))
  refine own_go (B := s₁.setTop (mkF m 0 #[rv pb, iv (4 : Int32), iv (5 : Int32), .unset, .unset] [])) (fun t k => castTop (own_cb4_ef m pb) k) ?_
  have K0 := Keep.refl h0 []
  refine own_go (B := (s₁.setTop (mkF m 1 #[rv pb, iv (4 : Int32), iv (5 : Int32), .unset, .unset] [(.int (4 : Int32))]))) (fun t k => XS.iloadN X0.here hx rfl (hb hby own_cb4_d0) rfl k) ?_
  refine own_go (B := (s₁.setTop (mkF m 2 #[rv pb, iv (4 : Int32), iv (5 : Int32), .unset, .unset] [(.int (5 : Int32)), (.int (4 : Int32))]))) (fun t k => XS.iloadN X0.here hx rfl (hb hby own_cb4_d1) rfl k) ?_
  obtain ⟨_, _, ⟨T1, L1, k1, n1⟩, -, X1, ⟨Lc1, hQ1, l1, yy1, zz1⟩, st1⟩ := Jvm.LawKit.callS X0 hx (y := own_y9) hown (mvT hZ w_62) (mvT hZ w_63) (mvT hZ w_57) (mvT hZ w_64) (by decide) (backOf (W := 0) (own_ck4 l Z a0 hw [] h0 n0) hZ w_64 w_57 (by decide) (by decide)) (g := (mkF m 2 #[rv pb, iv (4 : Int32), iv (5 : Int32), .unset, .unset] [(.int (5 : Int32)), (.int (4 : Int32))])) rfl (by rw [hml]; rfl) (argsL := [(.int (4 : Int32)), (.int (5 : Int32))]) (rest := []) (lenOf own_pd7 rfl) rfl (by show 2 * 0 + _ ≤ _; exact own_b rfl) (hb hby own_cb4_d2) (fun _ _ => ⟨rfl, e0, (own_b rfl : 0 + 0 ≤ _), (own_b rfl : 0 + 0 ≤ _)⟩)
  dsimp only [Pt.U, Pt.locs, Pt.cells, Pt.slots] at X1 l1 yy1 zz1 st1 hQ1
  obtain ⟨rfl, Nq1, eq1⟩ := hQ1
  obtain ⟨L1, X1, N1⟩ := own_absC (K := 0) (K' := 0) X1 l1 yy1 zz1 N0 Nq1
  have e1 : T1.heap = h0 := eq1
  refine own_go (B := (T1.setTop (mkF m 5 #[rv pb, iv (4 : Int32), iv (5 : Int32), .unset, .unset] []))) st1 ?_
  refine own_go (B := (T1.setTop (mkF m 6 #[rv pb, iv (4 : Int32), iv (5 : Int32), .unset, .unset] [(.int (5 : Int32))]))) (fun t k => XS.iloadN X1.here hx rfl (hb hby own_cb4_d5) rfl k) ?_
  refine own_go (B := (T1.setTop (mkF m 7 #[rv pb, iv (4 : Int32), iv (5 : Int32), .unset, .unset] [(.int (4 : Int32)), (.int (5 : Int32))]))) (fun t k => XS.iloadN X1.here hx rfl (hb hby own_cb4_d6) rfl k) ?_
  refine own_go (B := (T1.setTop (mkF m 8 #[rv pb, iv (4 : Int32), iv (5 : Int32), .unset, .unset] [(.int ((5 : Int32) - (4 : Int32)))]))) (fun t k => XS.isub (x := (5 : Int32)) (y := (4 : Int32)) X1.here hx rfl (hb hby own_cb4_d7) rfl k) ?_
  rw [show ((5 : Int32) - (4 : Int32)) = (1 : Int32) from by decide]
  refine own_go (B := (T1.setTop (mkF m 9 #[rv pb, iv (4 : Int32), iv (5 : Int32), iv (1 : Int32), .unset] []))) (fun t k => XS.istoreN X1.here hx rfl (hb hby own_cb4_d8) rfl (l' := #[rv pb, iv (4 : Int32), iv (5 : Int32), iv (1 : Int32), .unset]) rfl k) ?_
  refine own_go (B := (T1.setTop (mkF m 10 #[rv pb, iv (4 : Int32), iv (5 : Int32), iv (1 : Int32), .unset] [(.int (1 : Int32))]))) (fun t k => XS.iloadN X1.here hx rfl (hb hby own_cb4_d9) rfl k) ?_
  obtain ⟨T2, h2, c2, X2, e2, E2, A2, st2⟩ := newP X1 hx hZ (aty := .byte) w_1 e1 (g := (mkF m 10 #[rv pb, iv (4 : Int32), iv (5 : Int32), iv (1 : Int32), .unset] [(.int (1 : Int32))])) rfl (hb hby own_cb4_d10) rfl (by decide) (cap := 1) (by decide) (by decide) (own_b rfl) (own_b rfl)
  obtain ⟨a2, ga2⟩ : ∃ z, z = h0.size := ⟨_, rfl⟩
  rw [← ga2] at A2 st2
  refine own_go (B := (T2.setTop (mkF m 12 #[rv pb, iv (4 : Int32), iv (5 : Int32), iv (1 : Int32), .unset] [(.ref a2)]))) st2 ?_
  have Z3 : n0 ≤ h2.size := Nat.le_trans Z0 E2.1
  have V4 := own_Ar_ext V0 E2
  have K5 := Keep.ext K0 E2
  have gn2 : n0 ≤ a2 := Nat.le_trans Z0 (Nat.le_of_eq ga2.symm)
  have ne2_pb : a2 ≠ pb := fun q => absurd (own_Ar_lt V0) (by rw [← q, ga2]; exact Nat.lt_irrefl _)
  have V2 : own_Ar Z h2 a2 .byte [(.int (0 : Int32))] := own_Ar_new A2 (N := 1) (by decide) rfl
  refine own_go (B := (T2.setTop (mkF m 14 #[rv pb, iv (4 : Int32), iv (5 : Int32), iv (1 : Int32), rv a2] []))) (fun t k => XS.astore X2.here hx rfl (hb hby own_cb4_d12) rfl rfl (l' := #[rv pb, iv (4 : Int32), iv (5 : Int32), iv (1 : Int32), rv a2]) rfl k) ?_
  refine own_go (B := (T2.setTop (mkF m 15 #[rv pb, iv (4 : Int32), iv (5 : Int32), iv (1 : Int32), rv a2] [(.ref pb)]))) (fun t k => XS.aloadN X2.here hx rfl (hb hby own_cb4_d14) rfl rfl k) ?_
  refine own_go (B := (T2.setTop (mkF m 16 #[rv pb, iv (4 : Int32), iv (5 : Int32), iv (1 : Int32), rv a2] [(.int (4 : Int32)), (.ref pb)]))) (fun t k => XS.iloadN X2.here hx rfl (hb hby own_cb4_d15) rfl k) ?_
  refine own_go (B := (T2.setTop (mkF m 18 #[rv pb, iv (4 : Int32), iv (5 : Int32), iv (1 : Int32), rv a2] [(.ref a2), (.int (4 : Int32)), (.ref pb)]))) (fun t k => XS.aload X2.here hx rfl (hb hby own_cb4_d16) rfl rfl k) ?_
  refine own_go (B := (T2.setTop (mkF m 19 #[rv pb, iv (4 : Int32), iv (5 : Int32), iv (1 : Int32), rv a2] [(.int (0 : Int32)), (.ref a2), (.int (4 : Int32)), (.ref pb)]))) (fun t k => own_iconst (v := (0 : Int32)) X2.here hx rfl (hb hby own_cb4_d18) (by decide) k) ?_
  refine own_go (B := (T2.setTop (mkF m 20 #[rv pb, iv (4 : Int32), iv (5 : Int32), iv (1 : Int32), rv a2] [(.ref pb), (.int (0 : Int32)), (.ref a2), (.int (4 : Int32)), (.ref pb)]))) (fun t k => XS.aloadN X2.here hx rfl (hb hby own_cb4_d19) rfl rfl k) ?_
  refine own_go (B := (T2.setTop (mkF m 21 #[rv pb, iv (4 : Int32), iv (5 : Int32), iv (1 : Int32), rv a2] [(.int (8 : Int32)), (.int (0 : Int32)), (.ref a2), (.int (4 : Int32)), (.ref pb)]))) (own_alen X2 hx hZ e2 V4 (n := (8 : Int32)) (own_lenL (n := 8) rfl (by decide)) (g := (mkF m 20 #[rv pb, iv (4 : Int32), iv (5 : Int32), iv (1 : Int32), rv a2] [(.ref pb), (.int (0 : Int32)), (.ref a2), (.int (4 : Int32)), (.ref pb)])) rfl rfl (hb hby own_cb4_d20)) ?_
  refine own_go (B := (T2.setTop (mkF m 22 #[rv pb, iv (4 : Int32), iv (5 : Int32), iv (1 : Int32), rv a2] [(.int (4 : Int32)), (.int (8 : Int32)), (.int (0 : Int32)), (.ref a2), (.int (4 : Int32)), (.ref pb)]))) (fun t k => XS.iloadN X2.here hx rfl (hb hby own_cb4_d21) rfl k) ?_
  refine own_go (B := (T2.setTop (mkF m 23 #[rv pb, iv (4 : Int32), iv (5 : Int32), iv (1 : Int32), rv a2] [(.int ((8 : Int32) - (4 : Int32))), (.int (0 : Int32)), (.ref a2), (.int (4 : Int32)), (.ref pb)]))) (fun t k => XS.isub (x := (8 : Int32)) (y := (4 : Int32)) X2.here hx rfl (hb hby own_cb4_d22) rfl k) ?_
  rw [show ((8 : Int32) - (4 : Int32)) = (4 : Int32) from by decide]
  refine own_go (B := (T2.setTop (mkF m 24 #[rv pb, iv (4 : Int32), iv (5 : Int32), iv (1 : Int32), rv a2] [(.int (1 : Int32)), (.int (4 : Int32)), (.int (0 : Int32)), (.ref a2), (.int (4 : Int32)), (.ref pb)]))) (fun t k => XS.iloadN X2.here hx rfl (hb hby own_cb4_d23) rfl k) ?_
  obtain ⟨_, _, ⟨T6, L6, k6, n6⟩, -, X6, ⟨Lc6, hQ6, l6, yy6, zz6⟩, st6⟩ := Jvm.LawKit.callS X2 hx (y := own_y10) hown (mvT hZ w_65) (mvT hZ w_66) (mvT hZ w_67) (mvT hZ w_68) (by decide) (backOf (W := 4) (own_mmin l Z a0 hw [] (4 : Int32) (1 : Int32) h2 n0) hZ w_68 w_67 (by decide) (by decide)) (g := (mkF m 24 #[rv pb, iv (4 : Int32), iv (5 : Int32), iv (1 : Int32), rv a2] [(.int (1 : Int32)), (.int (4 : Int32)), (.int (0 : Int32)), (.ref a2), (.int (4 : Int32)), (.ref pb)])) rfl (by rw [hml]; rfl) (argsL := [(.int (4 : Int32)), (.int (1 : Int32))]) (rest := [(.int (0 : Int32)), (.ref a2), (.int (4 : Int32)), (.ref pb)]) (lenOf own_pd8 rfl) rfl (by show 2 * 0 + _ ≤ _; exact own_b rfl) (hb hby own_cb4_d24) (fun _ _ => ⟨rfl, e2, (own_b rfl : 1 + 0 ≤ _), (own_b rfl : 1 + 0 ≤ _)⟩)
  dsimp only [Pt.U, Pt.locs, Pt.cells, Pt.slots] at X6 l6 yy6 zz6 st6 hQ6
  obtain ⟨rfl, Nq6, eq6⟩ := hQ6
  obtain ⟨L6, X6, N6⟩ := own_absC (K := 1) (K' := 1) X6 l6 yy6 zz6 N1 Nq6
  have e6 : T6.heap = h2 := eq6
  refine own_go (B := (T6.setTop (mkF m 27 #[rv pb, iv (4 : Int32), iv (5 : Int32), iv (1 : Int32), rv a2] [(.int (own_min (4 : Int32) (1 : Int32))), (.int (0 : Int32)), (.ref a2), (.int (4 : Int32)), (.ref pb)]))) st6 ?_
  rw [show own_min (4 : Int32) (1 : Int32) = (1 : Int32) from by decide]
  obtain ⟨ks7, Vs7⟩ := own_arv_of (z := (8 : Int32)) (dv := .int (0 : Int32)) V4 (show (8 : Int32).toNatClampNeg = 8 from by decide) (by decide) (own_fits8 hfl hfx hfy)
  obtain ⟨kd7, Vd7⟩ := own_arv_of (z := (1 : Int32)) (dv := .int (0 : Int32)) V2 (show (1 : Int32).toNatClampNeg = 1 from by decide) (by decide) own_fits1
  obtain ⟨T7, h7, L7, X7, e7, N7, K7, V7, st7⟩ := cpA X6 hx hZ hown w_69 w_72 w_70 w_71 e6 (us := [(.int px)]) (sp := (4 : Int32)) (dp := (0 : Int32)) (nn := (1 : Int32)) Vs7 Vd7 (Or.inl ⟨rfl, rfl⟩) (by decide) (by decide) (by decide) (by decide) (by decide) rfl (by decide) N6 gn2 (g := (mkF m 27 #[rv pb, iv (4 : Int32), iv (5 : Int32), iv (1 : Int32), rv a2] [(.int (1 : Int32)), (.int (0 : Int32)), (.ref a2), (.int (4 : Int32)), (.ref pb)])) rfl (by rw [hml]; rfl) rfl (hb hby own_cb4_d27) (by decide) (W := 0) (by show 2 * 0 + _ ≤ _; exact own_b rfl) (by decide)
  refine own_go (B := (T7.setTop (mkF m 30 #[rv pb, iv (4 : Int32), iv (5 : Int32), iv (1 : Int32), rv a2] []))) st7 ?_
  have F8 : n0 ≤ h7.size := Nat.le_trans Z3 K7.1
  have F9 := own_Ar_keep V4 K7 (ninS (Ne.symm ne2_pb) nin0)
  have F10 := Keep.trans K5 K7 (allS (Or.inr (Nat.le_trans K0.1 (Nat.le_of_eq ga2.symm))) all0)
  have VF7 : own_Ar Z h7 a2 .byte [(.int px)] := own_ar_of V7 (show (1 : Int32).toNatClampNeg = 1 from by decide)
  refine own_go (B := (T7.setTop (mkF m 32 #[rv pb, iv (4 : Int32), iv (5 : Int32), iv (1 : Int32), rv a2] [(.ref a2)]))) (fun t k => XS.aload X7.here hx rfl (hb hby own_cb4_d30) rfl rfl k) ?_
  exact own_retA X7 hx hlk Bd.returns rfl rfl (hb hby own_cb4_d32) (own_b rfl) (own_b rfl) (Q := (own_cb4_Q Z pb lw px py h0 n0)) (by rw [e7]; exact ⟨_, rfl, N7, F10, Nat.le_of_eq ga2.symm, VF7⟩)

theorem own_cr4_d0 : decode jdk_65_method_132_code 0 = .ok (.iload_n 1, 1) := by decide +kernel
theorem own_cr4_d1 : decode jdk_65_method_132_code 1 = .ok (.ifCond .ne 9, 3) := by decide +kernel
theorem own_cr4_d10 : decode jdk_65_method_132_code 10 = .ok (.aload_n 0, 1) := by decide +kernel
theorem own_cr4_d11 : decode jdk_65_method_132_code 11 = .ok (.iload_n 1, 1) := by decide +kernel
theorem own_cr4_d12 : decode jdk_65_method_132_code 12 = .ok (.iload_n 2, 1) := by decide +kernel
theorem own_cr4_d13 : decode jdk_65_method_132_code 13 = .ok (.invokestatic 339, 3) := by decide +kernel
theorem own_cr4_d16 : decode jdk_65_method_132_code 16 = .ok (.areturn, 1) := by decide +kernel
theorem own_cr4_pn : plainName "java/util/Arrays" = true := by first | (simp [plainName, overriddenIn]; done) | decide +kernel
theorem own_cr4_ef (m : MethodId) (pb : Addr) : entryFrame m #[(.ref pb), (.int (4 : Int32)), (.int (5 : Int32))] 3 = mkF m 0 #[rv pb, iv (4 : Int32), iv (5 : Int32)] [] := by first | (simp [entryFrame, mkF, argsToLocals, Value.category]; done) | rfl
def own_cr4_Q (Z : State) (pb : Addr) (lw px py : Int32) (h0 : Heap) (n0 : Nat) (v : Option Value) (h : Heap) (L : List Loc) : Prop := ∃ b, v = some (.ref b) ∧ Fr n0 L ∧ Keep h0 h [] ∧ h0.size ≤ b ∧ own_Ar Z h b .byte [(.int px)]
set_option maxRecDepth 65536 in
set_option maxHeartbeats 40000000 in
theorem own_cr4 (l : Launch) (Z : State) (a0 : Array Value) (hw : ∀ d ∈ tables_1, d.before a0 Z = true) (ws : List Jvm.Cond) (pb : Addr) (lw px py : Int32) (h0 : Heap) (n0 : Nat) (Z0 : n0 ≤ h0.size) (V0 : own_Ar Z h0 pb .byte [(.int (48 : Int32)), (.int lw), (.int (2 : Int32)), (.int (1 : Int32)), (.int px), (.int (2 : Int32)), (.int (1 : Int32)), (.int py)]) (hfl : fits .byte (.int lw) = true) (hfx : fits .byte (.int px) = true) (hfy : fits .byte (.int py) = true) :
    MetFree l own_y12 (head1 (Jvm.Cond.code own_y12 jdk_65_method_132_code 3 (some (.array .byte)) :: ws) ({ frames := 2, cells := 1, slots := 1, locals := 56 } : Room)) (fun a U => a = #[(.ref pb), (.int (4 : Int32)), (.int (5 : Int32))] ∧ Z.Warmed39 U.vm ∧ U.heap = h0) (fun _ _ _ _ _ => True) (fun _ U o U' => ∃ v L, o = .returned v ∧ (own_cr4_Q Z pb lw px py h0 n0) v U'.heap L ∧ FrameEnd U o U' L ({ frames := 2, cells := 1, slots := 1, locals := 56 } : Room).cells ({ frames := 2, cells := 1, slots := 1, locals := 56 } : Room).slots) := by
  refine MetFree.of_bodySF (plainFor_of_name own_cr4_pn) hisR ?_
  intro p e s m args below meth c s₁ Bd hml0 hP hK
  obtain ⟨rfl, hZ, hh⟩ := hP
  have hx := Bd.exec
  have hby := Bd.bytes
  have hml : c.maxLocals = 3 := hml0
  have hown : s.vm.findClass "java/util/Arrays" = some m.cls := findClass_of_methodNamed Bd.named
  have hnm := (name_of_methodNamed Bd.named Bd.method).1
  have hlk : meth.locks = false := Bd.notSynchronized
  have X0 : Stand p l e ({ frames := 2, cells := 1, slots := 1, locals := 56 } : Room) s m #[(.ref pb), (.int (4 : Int32)), (.int (5 : Int32))] below meth c s₁ [] 0 0 := Stand.of_body Bd
  have e0 : s₁.heap = h0 := by rw [← hh, Bd.state]; rfl
  have N0 := Fr.nil n0
  have w_57 := hw _ (List.mem_of_getElem? (l := tables_1) (i := 57) rfl)
  have w_59 := hw _ (List.mem_of_getElem? (l := tables_1) (i := 59) rfl)
  have w_60 := hw _ (List.mem_of_getElem? (l := tables_1) (i := 60) rfl)
  have w_61 := hw _ (List.mem_of_getElem? (l := tables_1) (i := 61) rfl)
  show own_G p.tables e below (fun o U' => ∃ v L, o = .returned v ∧ (own_cr4_Q Z pb lw px py h0 n0) v U'.heap L ∧ FrameEnd s o U' L ({ frames := 2, cells := 1, slots := 1, locals := 56 } : Room).cells ({ frames := 2, cells := 1, slots := 1, locals := 56 } : Room).slots) (s₁.setTop (entryFrame m #[(.ref pb), (.int (4 : Int32)), (.int (5 : Int32))] 3))
  refine own_go (B := s₁.setTop (mkF m 0 #[rv pb, iv (4 : Int32), iv (5 : Int32)] [])) (fun t k => castTop (own_cr4_ef m pb) k) ?_
  have K0 := Keep.refl h0 []
  refine own_go (B := (s₁.setTop (mkF m 1 #[rv pb, iv (4 : Int32), iv (5 : Int32)] [(.int (4 : Int32))]))) (fun t k => XS.iloadN X0.here hx rfl (hb hby own_cr4_d0) rfl k) ?_
  have hc1 : ¬ (4 : Int32) = (0 : Int32) := (by decide)
  refine own_ifY X0 hx (hb hby own_cr4_d1) (pc' := 10) (by decide) (by decide) hc1 ?_
  refine own_go (B := (s₁.setTop (mkF m 11 #[rv pb, iv (4 : Int32), iv (5 : Int32)] [(.ref pb)]))) (fun t k => XS.aloadN X0.here hx rfl (hb hby own_cr4_d10) rfl rfl k) ?_
  refine own_go (B := (s₁.setTop (mkF m 12 #[rv pb, iv (4 : Int32), iv (5 : Int32)] [(.int (4 : Int32)), (.ref pb)]))) (fun t k => XS.iloadN X0.here hx rfl (hb hby own_cr4_d11) rfl k) ?_
  refine own_go (B := (s₁.setTop (mkF m 13 #[rv pb, iv (4 : Int32), iv (5 : Int32)] [(.int (5 : Int32)), (.int (4 : Int32)), (.ref pb)]))) (fun t k => XS.iloadN X0.here hx rfl (hb hby own_cr4_d12) rfl k) ?_
  obtain ⟨_, _, ⟨T1, L1, k1, n1⟩, -, X1, ⟨Lc1, hQ1, l1, yy1, zz1⟩, st1⟩ := Jvm.LawKit.callS X0 hx (y := own_y11) hown (mvT hZ w_59) (mvT hZ w_60) (mvT hZ w_57) (mvT hZ w_61) (by decide) (backOf (W := 0) (own_cb4 l Z a0 hw [] pb lw px py h0 n0 Z0 V0 hfl hfx hfy) hZ w_61 w_57 (by decide) (by decide)) (g := (mkF m 13 #[rv pb, iv (4 : Int32), iv (5 : Int32)] [(.int (5 : Int32)), (.int (4 : Int32)), (.ref pb)])) rfl (by rw [hml]; rfl) (argsL := [(.ref pb), (.int (4 : Int32)), (.int (5 : Int32))]) (rest := []) (lenOf own_pd9 rfl) rfl (by show 2 * 0 + _ ≤ _; exact own_b rfl) (hb hby own_cr4_d13) (fun _ _ => ⟨rfl, e0, (own_b rfl : 0 + 1 ≤ _), (own_b rfl : 0 + 1 ≤ _)⟩)
  dsimp only [Pt.U, Pt.locs, Pt.cells, Pt.slots] at X1 l1 yy1 zz1 st1 hQ1
  obtain ⟨b1, rfl, Nq1, K1, gz1, gv1⟩ := hQ1
  obtain ⟨L1, X1, N1⟩ := own_absC (K := 1) (K' := 1) X1 l1 yy1 zz1 N0 Nq1
  have gn_b1 : n0 ≤ b1 := Nat.le_trans Z0 gz1
  have F2 : n0 ≤ T1.heap.size := Nat.le_trans Z0 K1.1
  have F3 := own_Ar_keep V0 K1 nin0
  have F4 := Keep.trans K0 K1 all0
  refine own_go (B := (T1.setTop (mkF m 16 #[rv pb, iv (4 : Int32), iv (5 : Int32)] [(.ref b1)]))) st1 ?_
  exact own_retA X1 hx hlk Bd.returns rfl rfl (hb hby own_cr4_d16) (own_b rfl) (own_b rfl) (Q := (own_cr4_Q Z pb lw px py h0 n0)) ⟨_, rfl, N1, F4, gz1, gv1⟩

theorem own_ig4_d0 : decode prog_1_method_4_code 0 = .ok (.aload_n 0, 1) := by decide +kernel
theorem own_ig4_d1 : decode prog_1_method_4_code 1 = .ok (.iconst 2, 1) := by decide +kernel
theorem own_ig4_d2 : decode prog_1_method_4_code 2 = .ok (.ldc 29, 2) := by decide +kernel
theorem own_ig4_d4 : decode prog_1_method_4_code 4 = .ok (.invokevirtual 25, 3) := by decide +kernel
theorem own_ig4_d7 : decode prog_1_method_4_code 7 = .ok (.istore_n 1, 1) := by decide +kernel
theorem own_ig4_d8 : decode prog_1_method_4_code 8 = .ok (.iload_n 1, 1) := by decide +kernel
theorem own_ig4_d9 : decode prog_1_method_4_code 9 = .ok (.ifCond .ne 13, 3) := by decide +kernel
theorem own_ig4_d22 : decode prog_1_method_4_code 22 = .ok (.iload_n 1, 1) := by decide +kernel
theorem own_ig4_d23 : decode prog_1_method_4_code 23 = .ok (.iconst 1, 1) := by decide +kernel
theorem own_ig4_d24 : decode prog_1_method_4_code 24 = .ok (.if_icmp .le 66, 3) := by decide +kernel
theorem own_ig4_d90 : decode prog_1_method_4_code 90 = .ok (.new 40, 3) := by decide +kernel
theorem own_ig4_d93 : decode prog_1_method_4_code 93 = .ok (.dup, 1) := by decide +kernel
theorem own_ig4_d94 : decode prog_1_method_4_code 94 = .ok (.aload_n 0, 1) := by decide +kernel
theorem own_ig4_d95 : decode prog_1_method_4_code 95 = .ok (.getfield 12, 3) := by decide +kernel
theorem own_ig4_d98 : decode prog_1_method_4_code 98 = .ok (.aload_n 0, 1) := by decide +kernel
theorem own_ig4_d99 : decode prog_1_method_4_code 99 = .ok (.getfield 16, 3) := by decide +kernel
theorem own_ig4_d102 : decode prog_1_method_4_code 102 = .ok (.aload_n 0, 1) := by decide +kernel
theorem own_ig4_d103 : decode prog_1_method_4_code 103 = .ok (.getfield 16, 3) := by decide +kernel
theorem own_ig4_d106 : decode prog_1_method_4_code 106 = .ok (.iload_n 1, 1) := by decide +kernel
theorem own_ig4_d107 : decode prog_1_method_4_code 107 = .ok (.iadd, 1) := by decide +kernel
theorem own_ig4_d108 : decode prog_1_method_4_code 108 = .ok (.invokestatic 42, 3) := by decide +kernel
theorem own_ig4_d111 : decode prog_1_method_4_code 111 = .ok (.invokespecial 48, 3) := by decide +kernel
theorem own_ig4_d114 : decode prog_1_method_4_code 114 = .ok (.astore_n 2, 1) := by decide +kernel
theorem own_ig4_d115 : decode prog_1_method_4_code 115 = .ok (.aload_n 0, 1) := by decide +kernel
theorem own_ig4_d116 : decode prog_1_method_4_code 116 = .ok (.dup, 1) := by decide +kernel
theorem own_ig4_d117 : decode prog_1_method_4_code 117 = .ok (.getfield 16, 3) := by decide +kernel
theorem own_ig4_d120 : decode prog_1_method_4_code 120 = .ok (.iload_n 1, 1) := by decide +kernel
theorem own_ig4_d121 : decode prog_1_method_4_code 121 = .ok (.iadd, 1) := by decide +kernel
theorem own_ig4_d122 : decode prog_1_method_4_code 122 = .ok (.putfield 16, 3) := by decide +kernel
theorem own_ig4_d125 : decode prog_1_method_4_code 125 = .ok (.aload_n 2, 1) := by decide +kernel
theorem own_ig4_d126 : decode prog_1_method_4_code 126 = .ok (.areturn, 1) := by decide +kernel
theorem own_ig4_pn : plainName "com/example/honeybee/honeybee/device/DerReader" = true := by first | (simp [plainName, overriddenIn]; done) | decide +kernel
theorem own_ig4_ef (m : MethodId) (th : Addr) : entryFrame m #[(.ref th)] 3 = mkF m 0 #[rv th, .unset, .unset] [] := by first | (simp [entryFrame, mkF, argsToLocals, Value.category]; done) | rfl
def own_ig4_Q (Z : State) (th : Addr) (ba : Addr) (en : Int32) (lw px py : Int32) (zz zm : Addr) (h0 : Heap) (n0 : Nat) (v : Option Value) (h : Heap) (L : List Loc) : Prop := ∃ b, v = some (.ref b) ∧ Fr n0 L ∧ Keep h0 h [th] ∧ Exa Z h th "com/example/honeybee/honeybee/device/DerReader" ∧ Fld Z h th "com/example/honeybee/honeybee/device/DerReader" "bytes" "[B" (.ref ba) ∧ Fld Z h th "com/example/honeybee/honeybee/device/DerReader" "position" "I" (.int (5 : Int32)) ∧ Fld Z h th "com/example/honeybee/honeybee/device/DerReader" "end" "I" (.int en)
set_option maxRecDepth 65536 in
set_option maxHeartbeats 40000000 in
theorem own_ig4 (l : Launch) (Z : State) (a0 : Array Value) (hw : ∀ d ∈ tables_1, d.before a0 Z = true) (ws : List Jvm.Cond) (th : Addr) (ba : Addr) (en : Int32) (lw px py : Int32) (zz zm : Addr) (h0 : Heap) (n0 : Nat) (Z0 : n0 ≤ h0.size) (E0 : Exa Z h0 th "com/example/honeybee/honeybee/device/DerReader") (g0 : n0 ≤ th) (F9000 : Fld Z h0 th "com/example/honeybee/honeybee/device/DerReader" "bytes" "[B" (.ref ba)) (F9001 : Fld Z h0 th "com/example/honeybee/honeybee/device/DerReader" "position" "I" (.int (2 : Int32))) (F9002 : Fld Z h0 th "com/example/honeybee/honeybee/device/DerReader" "end" "I" (.int en)) (V0 : own_Ar Z h0 ba .byte [(.int (48 : Int32)), (.int lw), (.int (2 : Int32)), (.int (1 : Int32)), (.int px), (.int (2 : Int32)), (.int (1 : Int32)), (.int py)]) (hfl : fits .byte (.int lw) = true) (hfx : fits .byte (.int px) = true) (hfy : fits .byte (.int py) = true) (q1 : ¬ (en - (2 : Int32)) < (2 : Int32)) (q5 : ¬ (en - (4 : Int32)) < (1 : Int32)) (ZS : Sta Z h0 "java/math/BigInteger" "ZERO" "Ljava/math/BigInteger;" (.ref zz)) (ZE : Exa Z h0 zz "java/math/BigInteger") (ZF : Fld Z h0 zz "java/math/BigInteger" "mag" "[I" (.ref zm)) (ZV : own_Ar Z h0 zm .int []) (nzz : th ≠ zz) :
    MetFree l own_y14 (head1 (Jvm.Cond.code own_y14 prog_1_method_4_code 3 (some (.object "java/math/BigInteger")) :: ws) ({ frames := 4, cells := 5, slots := 40, locals := 72 } : Room)) (fun a U => a = #[(.ref th)] ∧ Z.Warmed39 U.vm ∧ U.heap = h0) (fun _ _ _ _ _ => True) (fun _ U o U' => ∃ v L, o = .returned v ∧ (own_ig4_Q Z th ba en lw px py zz zm h0 n0) v U'.heap L ∧ ReturnedEndW U o U' L ({ frames := 4, cells := 5, slots := 40, locals := 72 } : Room).cells ({ frames := 4, cells := 5, slots := 40, locals := 72 } : Room).slots) := by
  refine MetFree.of_bodySF (plainFor_of_name own_ig4_pn) hisR ?_
  intro p e s m args below meth c s₁ Bd hml0 hP hK
  obtain ⟨rfl, hZ, hh⟩ := hP
  have hx := Bd.exec
  have hby := Bd.bytes
  have hml : c.maxLocals = 3 := hml0
  have hown : s.vm.findClass "com/example/honeybee/honeybee/device/DerReader" = some m.cls := findClass_of_methodNamed Bd.named
  have hnm := (name_of_methodNamed Bd.named Bd.method).1
  have hlk : meth.locks = false := Bd.notSynchronized
  have X0 : Stand p l e ({ frames := 4, cells := 5, slots := 40, locals := 72 } : Room) (s.setVm s.vm) m #[(.ref th)] below meth c s₁ [] 0 0 := Stand.of_body Bd
  have hS0 : s.Since s.vm 0 := own_since0 s 0
  have hk0 : 0 ≤ h0.size := Nat.zero_le _
  have hws := own_hws hw
  have e0 : s₁.heap = h0 := by rw [← hh, Bd.state]; rfl
  have N0 := Fr.nil n0
  have w_3 := hw _ (List.mem_of_getElem? (l := tables_1) (i := 3) rfl)
  have w_4 := hw _ (List.mem_of_getElem? (l := tables_1) (i := 4) rfl)
  have w_14 := hw _ (List.mem_of_getElem? (l := tables_1) (i := 14) rfl)
  have w_15 := hw _ (List.mem_of_getElem? (l := tables_1) (i := 15) rfl)
  have w_16 := hw _ (List.mem_of_getElem? (l := tables_1) (i := 16) rfl)
  have w_17 := hw _ (List.mem_of_getElem? (l := tables_1) (i := 17) rfl)
  have w_19 := hw _ (List.mem_of_getElem? (l := tables_1) (i := 19) rfl)
  have w_37 := hw _ (List.mem_of_getElem? (l := tables_1) (i := 37) rfl)
  have w_38 := hw _ (List.mem_of_getElem? (l := tables_1) (i := 38) rfl)
  have w_39 := hw _ (List.mem_of_getElem? (l := tables_1) (i := 39) rfl)
  have w_40 := hw _ (List.mem_of_getElem? (l := tables_1) (i := 40) rfl)
  have w_51 := hw _ (List.mem_of_getElem? (l := tables_1) (i := 51) rfl)
  have w_52 := hw _ (List.mem_of_getElem? (l := tables_1) (i := 52) rfl)
  have w_53 := hw _ (List.mem_of_getElem? (l := tables_1) (i := 53) rfl)
  have w_54 := hw _ (List.mem_of_getElem? (l := tables_1) (i := 54) rfl)
  have w_55 := hw _ (List.mem_of_getElem? (l := tables_1) (i := 55) rfl)
  have w_56 := hw _ (List.mem_of_getElem? (l := tables_1) (i := 56) rfl)
  have w_57 := hw _ (List.mem_of_getElem? (l := tables_1) (i := 57) rfl)
  have w_58 := hw _ (List.mem_of_getElem? (l := tables_1) (i := 58) rfl)
  have w_73 := hw _ (List.mem_of_getElem? (l := tables_1) (i := 73) rfl)
  have w_74 := hw _ (List.mem_of_getElem? (l := tables_1) (i := 74) rfl)
  have w_75 := hw _ (List.mem_of_getElem? (l := tables_1) (i := 75) rfl)
  have w_100 := hw _ (List.mem_of_getElem? (l := tables_1) (i := 100) rfl)
  have w_102 := hw _ (List.mem_of_getElem? (l := tables_1) (i := 102) rfl)
  show own_G p.tables e below (fun o U' => ∃ v L, o = .returned v ∧ (own_ig4_Q Z th ba en lw px py zz zm h0 n0) v U'.heap L ∧ ReturnedEndW s o U' L ({ frames := 4, cells := 5, slots := 40, locals := 72 } : Room).cells ({ frames := 4, cells := 5, slots := 40, locals := 72 } : Room).slots) (s₁.setTop (entryFrame m #[(.ref th)] 3))
  refine own_go (B := s₁.setTop (mkF m 0 #[rv th, .unset, .unset] [])) (fun t k => castTop (own_ig4_ef m th) k) ?_
  have K0 := Keep.refl h0 [th]
  have nba := own_Ar_ne E0 w_3 V0
  have nzm := own_Ar_ne E0 w_3 ZV
  refine own_go (B := (s₁.setTop (mkF m 1 #[rv th, .unset, .unset] [(.ref th)]))) (fun t k => XS.aloadN X0.here hx rfl (hb hby own_ig4_d0) rfl rfl k) ?_
  refine own_go (B := (s₁.setTop (mkF m 2 #[rv th, .unset, .unset] [(.int (2 : Int32)), (.ref th)]))) (fun t k => own_iconst (v := (2 : Int32)) X0.here hx rfl (hb hby own_ig4_d1) (by decide) k) ?_
  obtain ⟨a1, T1, h1, k1, X1, e1, E1, hS1, hk1, hZ1, ho1, st1⟩ := ldcS (s := s) (vm0 := s.vm) X0 hx hZ hown w_51 hws e0 hS0 hk0 (g := (mkF m 2 #[rv th, .unset, .unset] [(.int (2 : Int32)), (.ref th)])) rfl (hb hby own_ig4_d2) (n := 28) (by decide) (by decide) (own_b rfl) (own_b rfl)
  refine own_go (B := (T1.setTop (mkF m 4 #[rv th, .unset, .unset] [(.ref a1), (.int (2 : Int32)), (.ref th)]))) st1 ?_
  have Z2 : n0 ≤ h1.size := Nat.le_trans Z0 E1.1
  have F3 := Exa.ext E1 E0
  have K4 := Keep.ext K0 E1
  have F5 := Fld.ext E1 F9000
  have F6 := Fld.ext E1 F9001
  have F7 := Fld.ext E1 F9002
  have V8 := own_Ar_ext V0 E1
  have F9 := Sta.ext E1 ZS
  have F10 := Exa.ext E1 ZE
  have F11 := Fld.ext E1 ZF
  have V12 := own_Ar_ext ZV E1
  obtain ⟨pc13, pq13, pr13⟩ := Exa.cell F3
  obtain ⟨_, _, ⟨T13, L13, k13, n13⟩, -, X13, ⟨Lc13, hQ13, l13, yy13, zz13⟩, st13⟩ := X1.privateBack hx (y := own_y2) ho1 (mvT hZ1 w_37) (mvT hZ1 w_38) (own_selp hZ1 w_3 w_39 w_38 (by decide)) (Cond.privateMethod_at (mvP hZ1 w_39 (args := #[]))) (mvT hZ1 w_40) (by decide) (backOf (W := 0) (own_hd l Z a0 hw [] th (2 : Int32) a1 ba (2 : Int32) en (4 : Int32) (2 : Int32) (1 : Int32) (1 : Int32) [(.int (48 : Int32)), (.int lw), (.int (2 : Int32)), (.int (1 : Int32)), (.int px), (.int (2 : Int32)), (.int (1 : Int32)), (.int py)] h1 n0 Z2 F3 g0 F5 F6 F7 V8 (by decide) (by decide) q1 rfl (by decide) rfl (by decide) (by decide) (by decide) q5) hZ1 w_40 w_4 (by decide) (by decide)) (g := (mkF m 4 #[rv th, .unset, .unset] [(.ref a1), (.int (2 : Int32)), (.ref th)])) rfl (by rw [hml]; rfl) (Steps.refl _) (a := th) (by rw [e1]; exact pq13) pr13 (argsL := [(.int (2 : Int32)), (.ref a1)]) (rest := []) (lenOf own_pd2 rfl) rfl (by show 2 * 0 + _ ≤ _; exact own_b rfl) (hb hby own_ig4_d4) (fun _ _ => ⟨rfl, e1, (own_b rfl : 2 + 0 ≤ _), (own_b rfl : 32 + 0 ≤ _)⟩)
  dsimp only [Pt.U, Pt.locs, Pt.cells, Pt.slots] at X13 l13 yy13 zz13 st13 hQ13
  obtain ⟨rfl, Nq13, K13, Ex13, gb13, gp13, ge13⟩ := hQ13
  obtain ⟨L13, X13, N13⟩ := own_absC (K := 2) (K' := 32) X13 l13 yy13 zz13 N0 Nq13
  have F14 : n0 ≤ T13.heap.size := Nat.le_trans Z2 K13.1
  have F15 := Exa.keep F3 K13
  have F16 := Keep.trans K4 K13 (allS (Or.inl (List.mem_of_getElem? (i := 0) rfl)) all0)
  have F20 := own_Ar_keep V8 K13 (ninS (Ne.symm nba) nin0)
  have F21 := own_sta_keep F9 K13 (nsS (Exa.nostat F3) ns0)
  have F22 := Exa.keep F10 K13
  have F23 := Fld.keep F11 K13 (ninS (Ne.symm nzz) nin0)
  have F24 := own_Ar_keep V12 K13 (ninS (Ne.symm nzm) nin0)
  have F25 : k1 ≤ T13.heap.size := Nat.le_trans hk1 K13.1
  refine own_tr (B := (T13.setTop (mkF m 7 #[rv th, .unset, .unset] [(.int (1 : Int32))]))) st13 ?_
  refine own_go (B := (T13.setTop (mkF m 8 #[rv th, iv (1 : Int32), .unset] []))) (fun t k => XS.istoreN X13.here hx rfl (hb hby own_ig4_d7) rfl (l' := #[rv th, iv (1 : Int32), .unset]) rfl k) ?_
  refine own_go (B := (T13.setTop (mkF m 9 #[rv th, iv (1 : Int32), .unset] [(.int (1 : Int32))]))) (fun t k => XS.iloadN X13.here hx rfl (hb hby own_ig4_d8) rfl k) ?_
  have hc9 : ¬ (1 : Int32) = (0 : Int32) := (by decide)
  refine own_ifY X13 hx (hb hby own_ig4_d9) (pc' := 22) (by decide) (by decide) hc9 ?_
  refine own_go (B := (T13.setTop (mkF m 23 #[rv th, iv (1 : Int32), .unset] [(.int (1 : Int32))]))) (fun t k => XS.iloadN X13.here hx rfl (hb hby own_ig4_d22) rfl k) ?_
  refine own_go (B := (T13.setTop (mkF m 24 #[rv th, iv (1 : Int32), .unset] [(.int (1 : Int32)), (.int (1 : Int32))]))) (fun t k => own_iconst (v := (1 : Int32)) X13.here hx rfl (hb hby own_ig4_d23) (by decide) k) ?_
  have hc24 : ¬ (1 : Int32) < (1 : Int32) := (by decide)
  refine own_icmpY X13 hx (hb hby own_ig4_d24) (pc' := 90) (by decide) (by decide) hc24 ?_
  obtain ⟨T26, h26, X26, e26, E26, A26, D26, U26, st26⟩ := newO X13 hx hZ1 ho1 w_52 w_53 w_54 rfl (g := (mkF m 90 #[rv th, iv (1 : Int32), .unset] [])) rfl (hb hby own_ig4_d90) (own_b rfl) (own_b rfl)
  obtain ⟨a26, ga26⟩ : ∃ z, z = T13.heap.size := ⟨_, rfl⟩
  rw [← ga26] at A26 D26 U26 st26
  refine own_go (B := (T26.setTop (mkF m 93 #[rv th, iv (1 : Int32), .unset] [(.ref a26)]))) st26 ?_
  have Z27 : n0 ≤ h26.size := Nat.le_trans F14 E26.1
  have F28 := Exa.ext E26 Ex13
  have K29 := Keep.ext F16 E26
  have V30 := own_Ar_ext F20 E26
  have F31 := Sta.ext E26 F21
  have F32 := Exa.ext E26 F22
  have F33 := Fld.ext E26 F23
  have V34 := own_Ar_ext F24 E26
  have Z35 : k1 ≤ h26.size := Nat.le_trans F25 E26.1
  have F36 := Fld.ext E26 gb13
  have F37 := Fld.ext E26 gp13
  have F38 := Fld.ext E26 ge13
  have gn26 : n0 ≤ a26 := Nat.le_trans F14 (Nat.le_of_eq ga26.symm)
  have ne26_th : a26 ≠ th := fun q => absurd (Ex13.lt) (by rw [← q, ga26]; exact Nat.lt_irrefl _)
  have ne26_ba : a26 ≠ ba := fun q => absurd (own_Ar_lt F20) (by rw [← q, ga26]; exact Nat.lt_irrefl _)
  have ne26_zz : a26 ≠ zz := fun q => absurd (F22.lt) (by rw [← q, ga26]; exact Nat.lt_irrefl _)
  have ne26_zm : a26 ≠ zm := fun q => absurd (own_Ar_lt F24) (by rw [← q, ga26]; exact Nat.lt_irrefl _)
  have F39 : Fld Z h26 a26 "java/math/BigInteger" "mag" "[I" .null := D26 (Or.inr w_100) (ty := (.array .int)) (by decide)
  have F40 : Fld Z h26 a26 "java/math/BigInteger" "signum" "I" (.int (0 : Int32)) := D26 (Or.inr w_102) (ty := .int) (by decide)
  refine own_go (B := (T26.setTop (mkF m 94 #[rv th, iv (1 : Int32), .unset] [(.ref a26), (.ref a26)]))) (fun t k => XS.dup X26.here hx rfl (hb hby own_ig4_d93) rfl rfl k) ?_
  refine own_go (B := (T26.setTop (mkF m 95 #[rv th, iv (1 : Int32), .unset] [(.ref th), (.ref a26), (.ref a26)]))) (fun t k => XS.aloadN X26.here hx rfl (hb hby own_ig4_d94) rfl rfl k) ?_
  obtain ⟨T41, X41, e41, st41⟩ := getF X26 hx hZ1 ho1 (host := "") (Or.inl w_14) Via.refl e26 F36 (g := (mkF m 95 #[rv th, iv (1 : Int32), .unset] [(.ref th), (.ref a26), (.ref a26)])) rfl rfl (hb hby own_ig4_d95)
  refine own_go (B := (T41.setTop (mkF m 98 #[rv th, iv (1 : Int32), .unset] [(.ref ba), (.ref a26), (.ref a26)]))) st41 ?_
  refine own_go (B := (T41.setTop (mkF m 99 #[rv th, iv (1 : Int32), .unset] [(.ref th), (.ref ba), (.ref a26), (.ref a26)]))) (fun t k => XS.aloadN X41.here hx rfl (hb hby own_ig4_d98) rfl rfl k) ?_
  obtain ⟨T42, X42, e42, st42⟩ := getF X41 hx hZ1 ho1 (host := "") (Or.inl w_16) Via.refl e41 F37 (g := (mkF m 99 #[rv th, iv (1 : Int32), .unset] [(.ref th), (.ref ba), (.ref a26), (.ref a26)])) rfl rfl (hb hby own_ig4_d99)
  refine own_go (B := (T42.setTop (mkF m 102 #[rv th, iv (1 : Int32), .unset] [(.int (4 : Int32)), (.ref ba), (.ref a26), (.ref a26)]))) st42 ?_
  refine own_go (B := (T42.setTop (mkF m 103 #[rv th, iv (1 : Int32), .unset] [(.ref th), (.int (4 : Int32)), (.ref ba), (.ref a26), (.ref a26)]))) (fun t k => XS.aloadN X42.here hx rfl (hb hby own_ig4_d102) rfl rfl k) ?_
  obtain ⟨T43, X43, e43, st43⟩ := getF X42 hx hZ1 ho1 (host := "") (Or.inl w_16) Via.refl e42 F37 (g := (mkF m 103 #[rv th, iv (1 : Int32), .unset] [(.ref th), (.int (4 : Int32)), (.ref ba), (.ref a26), (.ref a26)])) rfl rfl (hb hby own_ig4_d103)
  refine own_go (B := (T43.setTop (mkF m 106 #[rv th, iv (1 : Int32), .unset] [(.int (4 : Int32)), (.int (4 : Int32)), (.ref ba), (.ref a26), (.ref a26)]))) st43 ?_
  refine own_go (B := (T43.setTop (mkF m 107 #[rv th, iv (1 : Int32), .unset] [(.int (1 : Int32)), (.int (4 : Int32)), (.int (4 : Int32)), (.ref ba), (.ref a26), (.ref a26)]))) (fun t k => XS.iloadN X43.here hx rfl (hb hby own_ig4_d106) rfl k) ?_
  refine own_go (B := (T43.setTop (mkF m 108 #[rv th, iv (1 : Int32), .unset] [(.int ((4 : Int32) + (1 : Int32))), (.int (4 : Int32)), (.ref ba), (.ref a26), (.ref a26)]))) (fun t k => XS.iadd (x := (4 : Int32)) (y := (1 : Int32)) X43.here hx rfl (hb hby own_ig4_d107) rfl k) ?_
  rw [show ((4 : Int32) + (1 : Int32)) = (5 : Int32) from by decide]
  obtain ⟨_, _, ⟨T44, L44, k44, n44⟩, -, X44, ⟨Lc44, hQ44, l44, yy44, zz44⟩, st44⟩ := Jvm.LawKit.callS X43 hx (y := own_y12) ho1 (mvT hZ1 w_55) (mvT hZ1 w_56) (mvT hZ1 w_57) (mvT hZ1 w_58) (by decide) (backOf (W := 2) (own_cr4 l Z a0 hw [] ba lw px py h26 n0 Z27 V30 hfl hfx hfy) hZ1 w_58 w_57 (by decide) (by decide)) (g := (mkF m 108 #[rv th, iv (1 : Int32), .unset] [(.int (5 : Int32)), (.int (4 : Int32)), (.ref ba), (.ref a26), (.ref a26)])) rfl (by rw [hml]; rfl) (argsL := [(.ref ba), (.int (4 : Int32)), (.int (5 : Int32))]) (rest := [(.ref a26), (.ref a26)]) (lenOf own_pd9 rfl) rfl (by show 2 * 0 + _ ≤ _; exact own_b rfl) (hb hby own_ig4_d108) (fun _ _ => ⟨rfl, e43, (own_b rfl : 3 + 1 ≤ _), (own_b rfl : 38 + 1 ≤ _)⟩)
  dsimp only [Pt.U, Pt.locs, Pt.cells, Pt.slots] at X44 l44 yy44 zz44 st44 hQ44
  obtain ⟨b44, rfl, Nq44, K44, gz44, gv44⟩ := hQ44
  obtain ⟨L44, X44, N44⟩ := own_absC (K := 4) (K' := 39) X44 l44 yy44 zz44 N13 Nq44
  have gn_b44 : n0 ≤ b44 := Nat.le_trans Z27 gz44
  have nb44_th : b44 ≠ th := fun q => absurd F28.lt (by rw [← q]; exact Nat.not_lt.mpr gz44)
  have nb44_zz : b44 ≠ zz := fun q => absurd F32.lt (by rw [← q]; exact Nat.not_lt.mpr gz44)
  have nb44_a26 : b44 ≠ a26 := fun q => absurd A26.lt (by rw [← q]; exact Nat.not_lt.mpr gz44)
  have F45 : n0 ≤ T44.heap.size := Nat.le_trans Z27 K44.1
  have F46 := Exa.keep F28 K44
  have F47 := Keep.trans K29 K44 all0
  have F48 := own_Ar_keep V30 K44 nin0
  have F49 := own_sta_keep F31 K44 ns0
  have F50 := Exa.keep F32 K44
  have F51 := Fld.keep F33 K44 nin0
  have F52 := own_Ar_keep V34 K44 nin0
  have F53 : k1 ≤ T44.heap.size := Nat.le_trans Z35 K44.1
  have F54 := Fld.keep F36 K44 nin0
  have F55 := Fld.keep F37 K44 nin0
  have F56 := Fld.keep F38 K44 nin0
  have F57 := Exa.keep A26 K44
  have F58 := Fld.keep F39 K44 nin0
  have F59 := Fld.keep F40 K44 nin0
  refine own_go (B := (T44.setTop (mkF m 111 #[rv th, iv (1 : Int32), .unset] [(.ref b44), (.ref a26), (.ref a26)]))) st44 ?_
  obtain ⟨_, _, ⟨T60, L60, k60, n60⟩, -, X60, ⟨Lc60, hQ60, l60, yy60, zz60⟩, st60⟩ := X44.specialBack hx (y := own_y13) rfl ho1 (mvT hZ1 w_73) (mvT hZ1 w_74) (mvT hZ1 w_75) (by decide) (backOf (W := 1) (own_b1 l Z a0 hw [] a26 b44 px zz zm T44.heap n0 F45 F57 gn26 F58 F59 gv44 F49 F50 F51 F52) hZ1 w_75 w_54 (by decide) (by decide)) (g := (mkF m 111 #[rv th, iv (1 : Int32), .unset] [(.ref b44), (.ref a26), (.ref a26)])) rfl (by rw [hml]; rfl) (Steps.refl _) (a := a26) (argsL := [(.ref b44)]) (rest := [(.ref a26)]) (lenOf own_pd10 rfl) rfl (by show 2 * 0 + _ ≤ _; exact own_b rfl) (hb hby own_ig4_d111) (fun _ _ => ⟨rfl, rfl, (own_b rfl : 4 + 1 ≤ _), (own_b rfl : 39 + 1 ≤ _)⟩)
  dsimp only [Pt.U, Pt.locs, Pt.cells, Pt.slots] at X60 l60 yy60 zz60 st60 hQ60
  obtain ⟨rfl, Nq60, K60⟩ := hQ60
  obtain ⟨L60, X60, N60⟩ := own_absC (K := 5) (K' := 40) X60 l60 yy60 zz60 N44 Nq60
  have F61 : n0 ≤ T60.heap.size := Nat.le_trans F45 K60.1
  have F62 := Exa.keep F46 K60
  have F63 := Keep.trans F47 K60 (allS (Or.inr (Nat.le_trans F16.1 (Nat.le_of_eq ga26.symm))) all0)
  have F64 := own_Ar_keep F48 K60 (ninS (Ne.symm ne26_ba) nin0)
  have F65 := own_sta_keep F49 K60 (nsS (Exa.nostat F57) ns0)
  have F66 := Exa.keep F50 K60
  have F67 := Fld.keep F51 K60 (ninS (Ne.symm ne26_zz) nin0)
  have F68 := own_Ar_keep F52 K60 (ninS (Ne.symm ne26_zm) nin0)
  have F69 : k1 ≤ T60.heap.size := Nat.le_trans F53 K60.1
  have F70 := Fld.keep F54 K60 (ninS (Ne.symm ne26_th) nin0)
  have F71 := Fld.keep F55 K60 (ninS (Ne.symm ne26_th) nin0)
  have F72 := Fld.keep F56 K60 (ninS (Ne.symm ne26_th) nin0)
  have F73 := Exa.keep F57 K60
  have F76 := own_Ar_keep gv44 K60 (ninS nb44_a26 nin0)
  refine own_tr (B := (T60.setTop (mkF m 114 #[rv th, iv (1 : Int32), .unset] [(.ref a26)]))) st60 ?_
  refine own_go (B := (T60.setTop (mkF m 115 #[rv th, iv (1 : Int32), rv a26] []))) (fun t k => XS.astoreN X60.here hx rfl (hb hby own_ig4_d114) rfl rfl (l' := #[rv th, iv (1 : Int32), rv a26]) rfl k) ?_
  refine own_go (B := (T60.setTop (mkF m 116 #[rv th, iv (1 : Int32), rv a26] [(.ref th)]))) (fun t k => XS.aloadN X60.here hx rfl (hb hby own_ig4_d115) rfl rfl k) ?_
  refine own_go (B := (T60.setTop (mkF m 117 #[rv th, iv (1 : Int32), rv a26] [(.ref th), (.ref th)]))) (fun t k => XS.dup X60.here hx rfl (hb hby own_ig4_d116) rfl rfl k) ?_
  obtain ⟨T77, X77, e77, st77⟩ := getF X60 hx hZ1 ho1 (host := "") (Or.inl w_16) Via.refl rfl F71 (g := (mkF m 117 #[rv th, iv (1 : Int32), rv a26] [(.ref th), (.ref th)])) rfl rfl (hb hby own_ig4_d117)
  refine own_go (B := (T77.setTop (mkF m 120 #[rv th, iv (1 : Int32), rv a26] [(.int (4 : Int32)), (.ref th)]))) st77 ?_
  refine own_go (B := (T77.setTop (mkF m 121 #[rv th, iv (1 : Int32), rv a26] [(.int (1 : Int32)), (.int (4 : Int32)), (.ref th)]))) (fun t k => XS.iloadN X77.here hx rfl (hb hby own_ig4_d120) rfl k) ?_
  refine own_go (B := (T77.setTop (mkF m 122 #[rv th, iv (1 : Int32), rv a26] [(.int ((4 : Int32) + (1 : Int32))), (.ref th)]))) (fun t k => XS.iadd (x := (4 : Int32)) (y := (1 : Int32)) X77.here hx rfl (hb hby own_ig4_d121) rfl k) ?_
  rw [show ((4 : Int32) + (1 : Int32)) = (5 : Int32) from by decide]
  obtain ⟨T78, h78, X78, e78, W78, st78⟩ := putF X77 hx hZ1 ho1 (host := "") (Or.inl w_16) Via.refl e77 F71 F62 (Or.inl w_17) w_3 (ty := .int) (by decide) rfl rfl (g := (mkF m 122 #[rv th, iv (1 : Int32), rv a26] [(.int (5 : Int32)), (.ref th)])) rfl rfl (hb hby own_ig4_d122)
  refine own_go (B := (T78.setTop (mkF m 125 #[rv th, iv (1 : Int32), rv a26] []))) st78 ?_
  obtain ⟨L78, X78, N78⟩ := own_abs X78 (Fr.snoc X78 N60 g0)
  have F79 : n0 ≤ h78.size := by rw [W78.size]; exact F61
  have F80 := Exa.wr W78 F62
  have F81 := Keep.wr F63 W78 (Or.inl (List.mem_of_getElem? (i := 0) rfl))
  have F82 := own_Ar_other F64 W78 (Ne.symm nba)
  have F83 := Sta.wr W78 F65
  have F84 := Exa.wr W78 F66
  have F85 := Fld.other W78 F67 (Or.inl (Ne.symm nzz))
  have F86 := own_Ar_other F68 W78 (Ne.symm nzm)
  have F87 : k1 ≤ h78.size := by rw [W78.size]; exact F69
  have F88 := Fld.other W78 F70 (Or.inr (slot_ne (t := (.array .byte)) (t' := .int) (Or.inr w_15) (Or.inl w_17) (by decide) (by decide) (by decide)))
  have F89 := Fld.same W78 F71
  have F90 := Fld.other W78 F72 (Or.inr (slot_ne (t := .int) (t' := .int) (Or.inr w_19) (Or.inl w_17) (by decide) (by decide) (by decide)))
  have F91 := Exa.wr W78 F73
  have F92 := own_Ar_other F76 W78 nb44_th
  refine own_go (B := (T78.setTop (mkF m 126 #[rv th, iv (1 : Int32), rv a26] [(.ref a26)]))) (fun t k => XS.aloadN X78.here hx rfl (hb hby own_ig4_d125) rfl rfl k) ?_
  exact own_retWA X78 hx hlk hS1 (by rw [e78]; exact F87) Bd.returns rfl rfl (hb hby own_ig4_d126) (own_b rfl) (own_b rfl) (Q := (own_ig4_Q Z th ba en lw px py zz zm h0 n0)) (by rw [e78]; exact ⟨_, rfl, N78, F81, F80, F88, F89, F90⟩)

theorem own_ro4_d0 : decode method_3_code 0 = .ok (.iload_n 1, 1) := by decide +kernel
theorem own_ro4_d1 : decode method_3_code 1 = .ok (.ifCond .eq 11, 3) := by decide +kernel
theorem own_ro4_d4 : decode method_3_code 4 = .ok (.aload_n 0, 1) := by decide +kernel
theorem own_ro4_d5 : decode method_3_code 5 = .ok (.invokevirtual 27, 3) := by decide +kernel
theorem own_ro4_d8 : decode method_3_code 8 = .ok (.pop, 1) := by decide +kernel
theorem own_ro4_d9 : decode method_3_code 9 = .ok (.goto 7, 3) := by decide +kernel
theorem own_ro4_d16 : decode method_3_code 16 = .ok (.return_, 1) := by decide +kernel
theorem own_ro4_pn : plainName "com/example/honeybee/honeybee/device/DerReaderAtEndPinLaw" = true := by first | (simp [plainName, overriddenIn]; done) | decide +kernel
theorem own_ro4_ef (m : MethodId) (th : Addr) : entryFrame m #[(.ref th), (.int (1 : Int32))] 2 = mkF m 0 #[rv th, iv (1 : Int32)] [] := by first | (simp [entryFrame, mkF, argsToLocals, Value.category]; done) | rfl
def own_ro4_Q (Z : State) (th : Addr) (ba : Addr) (en : Int32) (lw px py : Int32) (zz zm : Addr) (h0 : Heap) (n0 : Nat) (v : Option Value) (h : Heap) (L : List Loc) : Prop := v = none ∧ Fr n0 L ∧ Keep h0 h [th] ∧ Exa Z h th "com/example/honeybee/honeybee/device/DerReader" ∧ Fld Z h th "com/example/honeybee/honeybee/device/DerReader" "bytes" "[B" (.ref ba) ∧ Fld Z h th "com/example/honeybee/honeybee/device/DerReader" "position" "I" (.int (5 : Int32)) ∧ Fld Z h th "com/example/honeybee/honeybee/device/DerReader" "end" "I" (.int en)
set_option maxRecDepth 65536 in
set_option maxHeartbeats 40000000 in
theorem own_ro4 (l : Launch) (Z : State) (a0 : Array Value) (hw : ∀ d ∈ tables_1, d.before a0 Z = true) (ws : List Jvm.Cond) (th : Addr) (ba : Addr) (en : Int32) (lw px py : Int32) (zz zm : Addr) (h0 : Heap) (n0 : Nat) (Z0 : n0 ≤ h0.size) (E0 : Exa Z h0 th "com/example/honeybee/honeybee/device/DerReader") (g0 : n0 ≤ th) (F9000 : Fld Z h0 th "com/example/honeybee/honeybee/device/DerReader" "bytes" "[B" (.ref ba)) (F9001 : Fld Z h0 th "com/example/honeybee/honeybee/device/DerReader" "position" "I" (.int (2 : Int32))) (F9002 : Fld Z h0 th "com/example/honeybee/honeybee/device/DerReader" "end" "I" (.int en)) (V0 : own_Ar Z h0 ba .byte [(.int (48 : Int32)), (.int lw), (.int (2 : Int32)), (.int (1 : Int32)), (.int px), (.int (2 : Int32)), (.int (1 : Int32)), (.int py)]) (hfl : fits .byte (.int lw) = true) (hfx : fits .byte (.int px) = true) (hfy : fits .byte (.int py) = true) (q1 : ¬ (en - (2 : Int32)) < (2 : Int32)) (q5 : ¬ (en - (4 : Int32)) < (1 : Int32)) (ZS : Sta Z h0 "java/math/BigInteger" "ZERO" "Ljava/math/BigInteger;" (.ref zz)) (ZE : Exa Z h0 zz "java/math/BigInteger") (ZF : Fld Z h0 zz "java/math/BigInteger" "mag" "[I" (.ref zm)) (ZV : own_Ar Z h0 zm .int []) (nzz : th ≠ zz) :
    MetFree l own_y19 (head1 (Jvm.Cond.code own_y19 method_3_code 2 none :: ws) ({ frames := 5, cells := 5, slots := 40, locals := 86 } : Room)) (fun a U => a = #[(.ref th), (.int (1 : Int32))] ∧ Z.Warmed39 U.vm ∧ U.heap = h0) (fun _ _ _ _ _ => True) (fun _ U o U' => ∃ v L, o = .returned v ∧ (own_ro4_Q Z th ba en lw px py zz zm h0 n0) v U'.heap L ∧ ReturnedEndW U o U' L ({ frames := 5, cells := 5, slots := 40, locals := 86 } : Room).cells ({ frames := 5, cells := 5, slots := 40, locals := 86 } : Room).slots) := by
  refine MetFree.of_bodySF (plainFor_of_name own_ro4_pn) hisR ?_
  intro p e s m args below meth c s₁ Bd hml0 hP hK
  obtain ⟨rfl, hZ, hh⟩ := hP
  have hx := Bd.exec
  have hby := Bd.bytes
  have hml : c.maxLocals = 2 := hml0
  have hown : s.vm.findClass "com/example/honeybee/honeybee/device/DerReaderAtEndPinLaw" = some m.cls := findClass_of_methodNamed Bd.named
  have hnm := (name_of_methodNamed Bd.named Bd.method).1
  have hlk : meth.locks = false := Bd.notSynchronized
  have X0 : Stand p l e ({ frames := 5, cells := 5, slots := 40, locals := 86 } : Room) (s.setVm s.vm) m #[(.ref th), (.int (1 : Int32))] below meth c s₁ [] 0 0 := Stand.of_body Bd
  have hS0 : s.Since s.vm 0 := own_since0 s 0
  have hk0 : 0 ≤ h0.size := Nat.zero_le _
  have hws := own_hws hw
  have e0 : s₁.heap = h0 := by rw [← hh, Bd.state]; rfl
  have N0 := Fr.nil n0
  have w_3 := hw _ (List.mem_of_getElem? (l := tables_1) (i := 3) rfl)
  have w_4 := hw _ (List.mem_of_getElem? (l := tables_1) (i := 4) rfl)
  have w_46 := hw _ (List.mem_of_getElem? (l := tables_1) (i := 46) rfl)
  have w_47 := hw _ (List.mem_of_getElem? (l := tables_1) (i := 47) rfl)
  have w_48 := hw _ (List.mem_of_getElem? (l := tables_1) (i := 48) rfl)
  have w_49 := hw _ (List.mem_of_getElem? (l := tables_1) (i := 49) rfl)
  have w_50 := hw _ (List.mem_of_getElem? (l := tables_1) (i := 50) rfl)
  show own_G p.tables e below (fun o U' => ∃ v L, o = .returned v ∧ (own_ro4_Q Z th ba en lw px py zz zm h0 n0) v U'.heap L ∧ ReturnedEndW s o U' L ({ frames := 5, cells := 5, slots := 40, locals := 86 } : Room).cells ({ frames := 5, cells := 5, slots := 40, locals := 86 } : Room).slots) (s₁.setTop (entryFrame m #[(.ref th), (.int (1 : Int32))] 2))
  refine own_go (B := s₁.setTop (mkF m 0 #[rv th, iv (1 : Int32)] [])) (fun t k => castTop (own_ro4_ef m th) k) ?_
  have K0 := Keep.refl h0 [th]
  have nba := own_Ar_ne E0 w_3 V0
  have nzm := own_Ar_ne E0 w_3 ZV
  refine own_go (B := (s₁.setTop (mkF m 1 #[rv th, iv (1 : Int32)] [(.int (1 : Int32))]))) (fun t k => XS.iloadN X0.here hx rfl (hb hby own_ro4_d0) rfl k) ?_
  have hc1 : ¬ (1 : Int32) = (0 : Int32) := (by decide)
  refine own_ifN X0 hx (hb hby own_ro4_d1) (pn := 4) rfl hc1 ?_
  refine own_go (B := (s₁.setTop (mkF m 5 #[rv th, iv (1 : Int32)] [(.ref th)]))) (fun t k => XS.aloadN X0.here hx rfl (hb hby own_ro4_d4) rfl rfl k) ?_
  obtain ⟨cq1, kq1, qa1, qb1, qc1⟩ := isOf hZ e0 E0
  obtain ⟨_, _, ⟨T1, L1, k1, n1⟩, -, X1, hs1, hg1, ⟨Lc1, hQ1, l1, yy1, zz1⟩, st1⟩ := X0.virtualBackS hx (y := own_y14) (z := own_y14) hown (mvT hZ w_46) (mvT hZ w_47) (notFace_of_selects (args := #[]) (mvT hZ w_49)) (mvT hZ w_49) (mvT hZ w_48) (by decide) (backOfS (W := 0) (own_ig4 l Z a0 hw [] th ba en lw px py zz zm h0 n0 Z0 E0 g0 F9000 F9001 F9002 V0 hfl hfx hfy q1 q5 ZS ZE ZF ZV nzz) hZ w_50 w_4 (by decide) (by decide)) qa1 qc1 (g := (mkF m 5 #[rv th, iv (1 : Int32)] [(.ref th)])) rfl (by rw [hml]; rfl) (Steps.refl _) (argsL := []) (rest := []) (lenOf own_pd11 rfl) rfl (by show 2 * 0 + _ ≤ _; exact own_b rfl) (hb hby own_ro4_d5) (fun _ _ => ⟨rfl, e0, (own_b rfl : 0 + 5 ≤ _), (own_b rfl : 0 + 40 ≤ _)⟩)
  dsimp only [Pt.U, Pt.locs, Pt.cells, Pt.slots] at X1 l1 yy1 zz1 st1 hQ1 hs1 hg1
  obtain ⟨b1, rfl, Nq1, K1, Ex1, gb1, gp1, ge1⟩ := hQ1
  obtain ⟨L1, X1, N1⟩ := own_absC (K := 5) (K' := 40) X1 l1 yy1 zz1 N0 Nq1
  have X1 : Stand p l e ({ frames := 5, cells := 5, slots := 40, locals := 86 } : Room) (s.setVm T1.vm) m #[(.ref th), (.int (1 : Int32))] below meth c T1 L1 5 40 := X1
  have hS1 := foldS hS0 (T := s₁) (by rw [e0]; exact hk0) hs1 hg1
  have hZ1 : Z.Warmed39 (s.setVm T1.vm).vm := State.Warmed39.trans (t := s.setVm s.vm) hZ hs1.1
  have ho1 : (s.setVm T1.vm).vm.findClass "com/example/honeybee/honeybee/device/DerReaderAtEndPinLaw" = some m.cls := by rw [show (s.setVm T1.vm).vm = T1.vm from rfl, hs1.1.alike.findClass]; exact hown
  have F2 : n0 ≤ T1.heap.size := Nat.le_trans Z0 K1.1
  have F3 := Exa.keep E0 K1
  have F4 := Keep.trans K0 K1 (allS (Or.inl (List.mem_of_getElem? (i := 0) rfl)) all0)
  have F8 := own_Ar_keep V0 K1 (ninS (Ne.symm nba) nin0)
  have F9 := own_sta_keep ZS K1 (nsS (Exa.nostat E0) ns0)
  have F10 := Exa.keep ZE K1
  have F11 := Fld.keep ZF K1 (ninS (Ne.symm nzz) nin0)
  have F12 := own_Ar_keep ZV K1 (ninS (Ne.symm nzm) nin0)
  have hk1 : T1.heap.size ≤ T1.heap.size := Nat.le_refl _
  refine own_tr (B := (T1.setTop (mkF m 8 #[rv th, iv (1 : Int32)] [(.ref b1)]))) st1 ?_
  refine own_go (B := (T1.setTop (mkF m 9 #[rv th, iv (1 : Int32)] []))) (fun t k => XS.pop X1.here hx rfl (hb hby own_ro4_d8) rfl rfl k) ?_
  refine own_go (B := (T1.setTop (mkF m 16 #[rv th, iv (1 : Int32)] []))) (fun t k => XS.goto X1.here hx rfl (pc0 := 9) (pc' := 16) rfl (hb hby own_ro4_d9) (by decide) (by decide) k) ?_
  exact own_retWV X1 hx hlk hS1 hk1 Bd.returns (hb hby own_ro4_d16) (own_b rfl) (own_b rfl) (Q := (own_ro4_Q Z th ba en lw px py zz zm h0 n0)) ⟨rfl, N1, F4, Ex1, gb1, gp1, ge1⟩

theorem own_ck7_d0 : decode jdk_65_method_131_code 0 = .ok (.iload_n 1, 1) := by decide +kernel
theorem own_ck7_d1 : decode jdk_65_method_131_code 1 = .ok (.iload_n 0, 1) := by decide +kernel
theorem own_ck7_d2 : decode jdk_65_method_131_code 2 = .ok (.if_icmp .ge 35, 3) := by decide +kernel
theorem own_ck7_d37 : decode jdk_65_method_131_code 37 = .ok (.return_, 1) := by decide +kernel
theorem own_ck7_pn : plainName "java/util/Arrays" = true := by first | (simp [plainName, overriddenIn]; done) | decide +kernel
theorem own_ck7_ef (m : MethodId) : entryFrame m #[(.int (7 : Int32)), (.int (8 : Int32))] 2 = mkF m 0 #[iv (7 : Int32), iv (8 : Int32)] [] := by first | (simp [entryFrame, mkF, argsToLocals, Value.category]; done) | rfl
def own_ck7_Q (Z : State) (h0 : Heap) (n0 : Nat) (v : Option Value) (h : Heap) (L : List Loc) : Prop := v = none ∧ Fr n0 L ∧ h = h0
set_option maxRecDepth 65536 in
set_option maxHeartbeats 40000000 in
theorem own_ck7 (l : Launch) (Z : State) (a0 : Array Value) (hw : ∀ d ∈ tables_1, d.before a0 Z = true) (ws : List Jvm.Cond) (h0 : Heap) (n0 : Nat) :
    MetFree l own_y9 (head1 (Jvm.Cond.code own_y9 jdk_65_method_131_code 2 none :: ws) ({ frames := 0, cells := 0, slots := 0, locals := 0 } : Room)) (fun a U => a = #[(.int (7 : Int32)), (.int (8 : Int32))] ∧ Z.Warmed39 U.vm ∧ U.heap = h0) (fun _ _ _ _ _ => True) (fun _ U o U' => ∃ v L, o = .returned v ∧ (own_ck7_Q Z h0 n0) v U'.heap L ∧ FrameEnd U o U' L ({ frames := 0, cells := 0, slots := 0, locals := 0 } : Room).cells ({ frames := 0, cells := 0, slots := 0, locals := 0 } : Room).slots) := by
  refine MetFree.of_bodySF (plainFor_of_name own_ck7_pn) hisR ?_
  intro p e s m args below meth c s₁ Bd hml0 hP hK
  obtain ⟨rfl, hZ, hh⟩ := hP
  have hx := Bd.exec
  have hby := Bd.bytes
  have hml : c.maxLocals = 2 := hml0
  have hown : s.vm.findClass "java/util/Arrays" = some m.cls := findClass_of_methodNamed Bd.named
  have hnm := (name_of_methodNamed Bd.named Bd.method).1
  have hlk : meth.locks = false := Bd.notSynchronized
  have X0 : Stand p l e ({ frames := 0, cells := 0, slots := 0, locals := 0 } : Room) s m #[(.int (7 : Int32)), (.int (8 : Int32))] below meth c s₁ [] 0 0 := Stand.of_body Bd
  have e0 : s₁.heap = h0 := by rw [← hh, Bd.state]; rfl
  have N0 := Fr.nil n0
  show own_G p.tables e below (fun o U' => ∃ v L, o = .returned v ∧ (own_ck7_Q Z h0 n0) v U'.heap L ∧ FrameEnd s o U' L ({ frames := 0, cells := 0, slots := 0, locals := 0 } : Room).cells ({ frames := 0, cells := 0, slots := 0, locals := 0 } : Room).slots) (s₁.setTop (entryFrame m #[(.int (7 : Int32)), (.int (8 : Int32))] 2))
  refine own_go (B := s₁.setTop (mkF m 0 #[iv (7 : Int32), iv (8 : Int32)] [])) (fun t k => castTop (own_ck7_ef m) k) ?_
  refine own_go (B := (s₁.setTop (mkF m 1 #[iv (7 : Int32), iv (8 : Int32)] [(.int (8 : Int32))]))) (fun t k => XS.iloadN X0.here hx rfl (hb hby own_ck7_d0) rfl k) ?_
  refine own_go (B := (s₁.setTop (mkF m 2 #[iv (7 : Int32), iv (8 : Int32)] [(.int (7 : Int32)), (.int (8 : Int32))]))) (fun t k => XS.iloadN X0.here hx rfl (hb hby own_ck7_d1) rfl k) ?_
  have hc2 : ¬ (8 : Int32) < (7 : Int32) := (by decide)
  refine own_icmpY X0 hx (hb hby own_ck7_d2) (pc' := 37) (by decide) (by decide) hc2 ?_
  exact own_retV X0 hx hlk Bd.returns (hb hby own_ck7_d37) (own_b rfl) (own_b rfl) (Q := (own_ck7_Q Z h0 n0)) ⟨rfl, N0, e0⟩

theorem own_cb7_d0 : decode jdk_65_method_133_code 0 = .ok (.iload_n 1, 1) := by decide +kernel
theorem own_cb7_d1 : decode jdk_65_method_133_code 1 = .ok (.iload_n 2, 1) := by decide +kernel
theorem own_cb7_d2 : decode jdk_65_method_133_code 2 = .ok (.invokestatic 343, 3) := by decide +kernel
theorem own_cb7_d5 : decode jdk_65_method_133_code 5 = .ok (.iload_n 2, 1) := by decide +kernel
theorem own_cb7_d6 : decode jdk_65_method_133_code 6 = .ok (.iload_n 1, 1) := by decide +kernel
theorem own_cb7_d7 : decode jdk_65_method_133_code 7 = .ok (.isub, 1) := by decide +kernel
theorem own_cb7_d8 : decode jdk_65_method_133_code 8 = .ok (.istore_n 3, 1) := by decide +kernel
theorem own_cb7_d9 : decode jdk_65_method_133_code 9 = .ok (.iload_n 3, 1) := by decide +kernel
theorem own_cb7_d10 : decode jdk_65_method_133_code 10 = .ok (.newarray .byte, 2) := by decide +kernel
theorem own_cb7_d12 : decode jdk_65_method_133_code 12 = .ok (.astore 4, 2) := by decide +kernel
theorem own_cb7_d14 : decode jdk_65_method_133_code 14 = .ok (.aload_n 0, 1) := by decide +kernel
theorem own_cb7_d15 : decode jdk_65_method_133_code 15 = .ok (.iload_n 1, 1) := by decide +kernel
theorem own_cb7_d16 : decode jdk_65_method_133_code 16 = .ok (.aload 4, 2) := by decide +kernel
theorem own_cb7_d18 : decode jdk_65_method_133_code 18 = .ok (.iconst 0, 1) := by decide +kernel
theorem own_cb7_d19 : decode jdk_65_method_133_code 19 = .ok (.aload_n 0, 1) := by decide +kernel
theorem own_cb7_d20 : decode jdk_65_method_133_code 20 = .ok (.arraylength, 1) := by decide +kernel
theorem own_cb7_d21 : decode jdk_65_method_133_code 21 = .ok (.iload_n 1, 1) := by decide +kernel
theorem own_cb7_d22 : decode jdk_65_method_133_code 22 = .ok (.isub, 1) := by decide +kernel
theorem own_cb7_d23 : decode jdk_65_method_133_code 23 = .ok (.iload_n 3, 1) := by decide +kernel
theorem own_cb7_d24 : decode jdk_65_method_133_code 24 = .ok (.invokestatic 304, 3) := by decide +kernel
theorem own_cb7_d27 : decode jdk_65_method_133_code 27 = .ok (.invokestatic 150, 3) := by decide +kernel
theorem own_cb7_d30 : decode jdk_65_method_133_code 30 = .ok (.aload 4, 2) := by decide +kernel
theorem own_cb7_d32 : decode jdk_65_method_133_code 32 = .ok (.areturn, 1) := by decide +kernel
theorem own_cb7_pn : plainName "java/util/Arrays" = true := by first | (simp [plainName, overriddenIn]; done) | decide +kernel
theorem own_cb7_ef (m : MethodId) (pb : Addr) : entryFrame m #[(.ref pb), (.int (7 : Int32)), (.int (8 : Int32))] 5 = mkF m 0 #[rv pb, iv (7 : Int32), iv (8 : Int32), .unset, .unset] [] := by first | (simp [entryFrame, mkF, argsToLocals, Value.category]; done) | rfl
def own_cb7_Q (Z : State) (pb : Addr) (lw px py : Int32) (h0 : Heap) (n0 : Nat) (v : Option Value) (h : Heap) (L : List Loc) : Prop := ∃ b, v = some (.ref b) ∧ Fr n0 L ∧ Keep h0 h [] ∧ h0.size ≤ b ∧ own_Ar Z h b .byte [(.int py)]
set_option maxRecDepth 65536 in
set_option maxHeartbeats 40000000 in
theorem own_cb7 (l : Launch) (Z : State) (a0 : Array Value) (hw : ∀ d ∈ tables_1, d.before a0 Z = true) (ws : List Jvm.Cond) (pb : Addr) (lw px py : Int32) (h0 : Heap) (n0 : Nat) (Z0 : n0 ≤ h0.size) (V0 : own_Ar Z h0 pb .byte [(.int (48 : Int32)), (.int lw), (.int (2 : Int32)), (.int (1 : Int32)), (.int px), (.int (2 : Int32)), (.int (1 : Int32)), (.int py)]) (hfl : fits .byte (.int lw) = true) (hfx : fits .byte (.int px) = true) (hfy : fits .byte (.int py) = true) :
    MetFree l own_y11 (head1 (Jvm.Cond.code own_y11 jdk_65_method_133_code 5 (some (.array .byte)) :: ws) ({ frames := 1, cells := 1, slots := 1, locals := 40 } : Room)) (fun a U => a = #[(.ref pb), (.int (7 : Int32)), (.int (8 : Int32))] ∧ Z.Warmed39 U.vm ∧ U.heap = h0) (fun _ _ _ _ _ => True) (fun _ U o U' => ∃ v L, o = .returned v ∧ (own_cb7_Q Z pb lw px py h0 n0) v U'.heap L ∧ FrameEnd U o U' L ({ frames := 1, cells := 1, slots := 1, locals := 40 } : Room).cells ({ frames := 1, cells := 1, slots := 1, locals := 40 } : Room).slots) := by
  refine MetFree.of_bodySF (plainFor_of_name own_cb7_pn) hisR ?_
  intro p e s m args below meth c s₁ Bd hml0 hP hK
  obtain ⟨rfl, hZ, hh⟩ := hP
  have hx := Bd.exec
  have hby := Bd.bytes
  have hml : c.maxLocals = 5 := hml0
  have hown : s.vm.findClass "java/util/Arrays" = some m.cls := findClass_of_methodNamed Bd.named
  have hnm := (name_of_methodNamed Bd.named Bd.method).1
  have hlk : meth.locks = false := Bd.notSynchronized
  have X0 : Stand p l e ({ frames := 1, cells := 1, slots := 1, locals := 40 } : Room) s m #[(.ref pb), (.int (7 : Int32)), (.int (8 : Int32))] below meth c s₁ [] 0 0 := Stand.of_body Bd
  have e0 : s₁.heap = h0 := by rw [← hh, Bd.state]; rfl
  have N0 := Fr.nil n0
  have w_1 := hw _ (List.mem_of_getElem? (l := tables_1) (i := 1) rfl)
  have w_57 := hw _ (List.mem_of_getElem? (l := tables_1) (i := 57) rfl)
  have w_62 := hw _ (List.mem_of_getElem? (l := tables_1) (i := 62) rfl)
  have w_63 := hw _ (List.mem_of_getElem? (l := tables_1) (i := 63) rfl)
  have w_64 := hw _ (List.mem_of_getElem? (l := tables_1) (i := 64) rfl)
  have w_65 := hw _ (List.mem_of_getElem? (l := tables_1) (i := 65) rfl)
  have w_66 := hw _ (List.mem_of_getElem? (l := tables_1) (i := 66) rfl)
  have w_67 := hw _ (List.mem_of_getElem? (l := tables_1) (i := 67) rfl)
  have w_68 := hw _ (List.mem_of_getElem? (l := tables_1) (i := 68) rfl)
  have w_69 := hw _ (List.mem_of_getElem? (l := tables_1) (i := 69) rfl)
  have w_70 := hw _ (List.mem_of_getElem? (l := tables_1) (i := 70) rfl)
  have w_71 := hw _ (List.mem_of_getElem? (l := tables_1) (i := 71) rfl)
  have w_72 := hw _ (List.mem_of_getElem? (l := tables_1) (i := 72) rfl)
  show own_G p.tables e below (fun o U' => ∃ v L, o = .returned v ∧ (own_cb7_Q Z pb lw px py h0 n0) v U'.heap L ∧ FrameEnd s o U' L ({ frames := 1, cells := 1, slots := 1, locals := 40 } : Room).cells ({ frames := 1, cells := 1, slots := 1, locals := 40 } : Room).slots) (s₁.setTop (entryFrame m #[(.ref pb), (.int (7 : Int32)), (.int (8 : Int32))] 5))
  refine own_go (B := s₁.setTop (mkF m 0 #[rv pb, iv (7 : Int32), iv (8 : Int32), .unset, .unset] [])) (fun t k => castTop (own_cb7_ef m pb) k) ?_
  have K0 := Keep.refl h0 []
  refine own_go (B := (s₁.setTop (mkF m 1 #[rv pb, iv (7 : Int32), iv (8 : Int32), .unset, .unset] [(.int (7 : Int32))]))) (fun t k => XS.iloadN X0.here hx rfl (hb hby own_cb7_d0) rfl k) ?_
  refine own_go (B := (s₁.setTop (mkF m 2 #[rv pb, iv (7 : Int32), iv (8 : Int32), .unset, .unset] [(.int (8 : Int32)), (.int (7 : Int32))]))) (fun t k => XS.iloadN X0.here hx rfl (hb hby own_cb7_d1) rfl k) ?_
  obtain ⟨_, _, ⟨T1, L1, k1, n1⟩, -, X1, ⟨Lc1, hQ1, l1, yy1, zz1⟩, st1⟩ := Jvm.LawKit.callS X0 hx (y := own_y9) hown (mvT hZ w_62) (mvT hZ w_63) (mvT hZ w_57) (mvT hZ w_64) (by decide) (backOf (W := 0) (own_ck7 l Z a0 hw [] h0 n0) hZ w_64 w_57 (by decide) (by decide)) (g := (mkF m 2 #[rv pb, iv (7 : Int32), iv (8 : Int32), .unset, .unset] [(.int (8 : Int32)), (.int (7 : Int32))])) rfl (by rw [hml]; rfl) (argsL := [(.int (7 : Int32)), (.int (8 : Int32))]) (rest := []) (lenOf own_pd7 rfl) rfl (by show 2 * 0 + _ ≤ _; exact own_b rfl) (hb hby own_cb7_d2) (fun _ _ => ⟨rfl, e0, (own_b rfl : 0 + 0 ≤ _), (own_b rfl : 0 + 0 ≤ _)⟩)
  dsimp only [Pt.U, Pt.locs, Pt.cells, Pt.slots] at X1 l1 yy1 zz1 st1 hQ1
  obtain ⟨rfl, Nq1, eq1⟩ := hQ1
  obtain ⟨L1, X1, N1⟩ := own_absC (K := 0) (K' := 0) X1 l1 yy1 zz1 N0 Nq1
  have e1 : T1.heap = h0 := eq1
  refine own_go (B := (T1.setTop (mkF m 5 #[rv pb, iv (7 : Int32), iv (8 : Int32), .unset, .unset] []))) st1 ?_
  refine own_go (B := (T1.setTop (mkF m 6 #[rv pb, iv (7 : Int32), iv (8 : Int32), .unset, .unset] [(.int (8 : Int32))]))) (fun t k => XS.iloadN X1.here hx rfl (hb hby own_cb7_d5) rfl k) ?_
  refine own_go (B := (T1.setTop (mkF m 7 #[rv pb, iv (7 : Int32), iv (8 : Int32), .unset, .unset] [(.int (7 : Int32)), (.int (8 : Int32))]))) (fun t k => XS.iloadN X1.here hx rfl (hb hby own_cb7_d6) rfl k) ?_
  refine own_go (B := (T1.setTop (mkF m 8 #[rv pb, iv (7 : Int32), iv (8 : Int32), .unset, .unset] [(.int ((8 : Int32) - (7 : Int32)))]))) (fun t k => XS.isub (x := (8 : Int32)) (y := (7 : Int32)) X1.here hx rfl (hb hby own_cb7_d7) rfl k) ?_
  rw [show ((8 : Int32) - (7 : Int32)) = (1 : Int32) from by decide]
  refine own_go (B := (T1.setTop (mkF m 9 #[rv pb, iv (7 : Int32), iv (8 : Int32), iv (1 : Int32), .unset] []))) (fun t k => XS.istoreN X1.here hx rfl (hb hby own_cb7_d8) rfl (l' := #[rv pb, iv (7 : Int32), iv (8 : Int32), iv (1 : Int32), .unset]) rfl k) ?_
  refine own_go (B := (T1.setTop (mkF m 10 #[rv pb, iv (7 : Int32), iv (8 : Int32), iv (1 : Int32), .unset] [(.int (1 : Int32))]))) (fun t k => XS.iloadN X1.here hx rfl (hb hby own_cb7_d9) rfl k) ?_
  obtain ⟨T2, h2, c2, X2, e2, E2, A2, st2⟩ := newP X1 hx hZ (aty := .byte) w_1 e1 (g := (mkF m 10 #[rv pb, iv (7 : Int32), iv (8 : Int32), iv (1 : Int32), .unset] [(.int (1 : Int32))])) rfl (hb hby own_cb7_d10) rfl (by decide) (cap := 1) (by decide) (by decide) (own_b rfl) (own_b rfl)
  obtain ⟨a2, ga2⟩ : ∃ z, z = h0.size := ⟨_, rfl⟩
  rw [← ga2] at A2 st2
  refine own_go (B := (T2.setTop (mkF m 12 #[rv pb, iv (7 : Int32), iv (8 : Int32), iv (1 : Int32), .unset] [(.ref a2)]))) st2 ?_
  have Z3 : n0 ≤ h2.size := Nat.le_trans Z0 E2.1
  have V4 := own_Ar_ext V0 E2
  have K5 := Keep.ext K0 E2
  have gn2 : n0 ≤ a2 := Nat.le_trans Z0 (Nat.le_of_eq ga2.symm)
  have ne2_pb : a2 ≠ pb := fun q => absurd (own_Ar_lt V0) (by rw [← q, ga2]; exact Nat.lt_irrefl _)
  have V2 : own_Ar Z h2 a2 .byte [(.int (0 : Int32))] := own_Ar_new A2 (N := 1) (by decide) rfl
  refine own_go (B := (T2.setTop (mkF m 14 #[rv pb, iv (7 : Int32), iv (8 : Int32), iv (1 : Int32), rv a2] []))) (fun t k => XS.astore X2.here hx rfl (hb hby own_cb7_d12) rfl rfl (l' := #[rv pb, iv (7 : Int32), iv (8 : Int32), iv (1 : Int32), rv a2]) rfl k) ?_
  refine own_go (B := (T2.setTop (mkF m 15 #[rv pb, iv (7 : Int32), iv (8 : Int32), iv (1 : Int32), rv a2] [(.ref pb)]))) (fun t k => XS.aloadN X2.here hx rfl (hb hby own_cb7_d14) rfl rfl k) ?_
  refine own_go (B := (T2.setTop (mkF m 16 #[rv pb, iv (7 : Int32), iv (8 : Int32), iv (1 : Int32), rv a2] [(.int (7 : Int32)), (.ref pb)]))) (fun t k => XS.iloadN X2.here hx rfl (hb hby own_cb7_d15) rfl k) ?_
  refine own_go (B := (T2.setTop (mkF m 18 #[rv pb, iv (7 : Int32), iv (8 : Int32), iv (1 : Int32), rv a2] [(.ref a2), (.int (7 : Int32)), (.ref pb)]))) (fun t k => XS.aload X2.here hx rfl (hb hby own_cb7_d16) rfl rfl k) ?_
  refine own_go (B := (T2.setTop (mkF m 19 #[rv pb, iv (7 : Int32), iv (8 : Int32), iv (1 : Int32), rv a2] [(.int (0 : Int32)), (.ref a2), (.int (7 : Int32)), (.ref pb)]))) (fun t k => own_iconst (v := (0 : Int32)) X2.here hx rfl (hb hby own_cb7_d18) (by decide) k) ?_
  refine own_go (B := (T2.setTop (mkF m 20 #[rv pb, iv (7 : Int32), iv (8 : Int32), iv (1 : Int32), rv a2] [(.ref pb), (.int (0 : Int32)), (.ref a2), (.int (7 : Int32)), (.ref pb)]))) (fun t k => XS.aloadN X2.here hx rfl (hb hby own_cb7_d19) rfl rfl k) ?_
  refine own_go (B := (T2.setTop (mkF m 21 #[rv pb, iv (7 : Int32), iv (8 : Int32), iv (1 : Int32), rv a2] [(.int (8 : Int32)), (.int (0 : Int32)), (.ref a2), (.int (7 : Int32)), (.ref pb)]))) (own_alen X2 hx hZ e2 V4 (n := (8 : Int32)) (own_lenL (n := 8) rfl (by decide)) (g := (mkF m 20 #[rv pb, iv (7 : Int32), iv (8 : Int32), iv (1 : Int32), rv a2] [(.ref pb), (.int (0 : Int32)), (.ref a2), (.int (7 : Int32)), (.ref pb)])) rfl rfl (hb hby own_cb7_d20)) ?_
  refine own_go (B := (T2.setTop (mkF m 22 #[rv pb, iv (7 : Int32), iv (8 : Int32), iv (1 : Int32), rv a2] [(.int (7 : Int32)), (.int (8 : Int32)), (.int (0 : Int32)), (.ref a2), (.int (7 : Int32)), (.ref pb)]))) (fun t k => XS.iloadN X2.here hx rfl (hb hby own_cb7_d21) rfl k) ?_
  refine own_go (B := (T2.setTop (mkF m 23 #[rv pb, iv (7 : Int32), iv (8 : Int32), iv (1 : Int32), rv a2] [(.int ((8 : Int32) - (7 : Int32))), (.int (0 : Int32)), (.ref a2), (.int (7 : Int32)), (.ref pb)]))) (fun t k => XS.isub (x := (8 : Int32)) (y := (7 : Int32)) X2.here hx rfl (hb hby own_cb7_d22) rfl k) ?_
  rw [show ((8 : Int32) - (7 : Int32)) = (1 : Int32) from by decide]
  refine own_go (B := (T2.setTop (mkF m 24 #[rv pb, iv (7 : Int32), iv (8 : Int32), iv (1 : Int32), rv a2] [(.int (1 : Int32)), (.int (1 : Int32)), (.int (0 : Int32)), (.ref a2), (.int (7 : Int32)), (.ref pb)]))) (fun t k => XS.iloadN X2.here hx rfl (hb hby own_cb7_d23) rfl k) ?_
  obtain ⟨_, _, ⟨T6, L6, k6, n6⟩, -, X6, ⟨Lc6, hQ6, l6, yy6, zz6⟩, st6⟩ := Jvm.LawKit.callS X2 hx (y := own_y10) hown (mvT hZ w_65) (mvT hZ w_66) (mvT hZ w_67) (mvT hZ w_68) (by decide) (backOf (W := 4) (own_mmin l Z a0 hw [] (1 : Int32) (1 : Int32) h2 n0) hZ w_68 w_67 (by decide) (by decide)) (g := (mkF m 24 #[rv pb, iv (7 : Int32), iv (8 : Int32), iv (1 : Int32), rv a2] [(.int (1 : Int32)), (.int (1 : Int32)), (.int (0 : Int32)), (.ref a2), (.int (7 : Int32)), (.ref pb)])) rfl (by rw [hml]; rfl) (argsL := [(.int (1 : Int32)), (.int (1 : Int32))]) (rest := [(.int (0 : Int32)), (.ref a2), (.int (7 : Int32)), (.ref pb)]) (lenOf own_pd8 rfl) rfl (by show 2 * 0 + _ ≤ _; exact own_b rfl) (hb hby own_cb7_d24) (fun _ _ => ⟨rfl, e2, (own_b rfl : 1 + 0 ≤ _), (own_b rfl : 1 + 0 ≤ _)⟩)
  dsimp only [Pt.U, Pt.locs, Pt.cells, Pt.slots] at X6 l6 yy6 zz6 st6 hQ6
  obtain ⟨rfl, Nq6, eq6⟩ := hQ6
  obtain ⟨L6, X6, N6⟩ := own_absC (K := 1) (K' := 1) X6 l6 yy6 zz6 N1 Nq6
  have e6 : T6.heap = h2 := eq6
  refine own_go (B := (T6.setTop (mkF m 27 #[rv pb, iv (7 : Int32), iv (8 : Int32), iv (1 : Int32), rv a2] [(.int (own_min (1 : Int32) (1 : Int32))), (.int (0 : Int32)), (.ref a2), (.int (7 : Int32)), (.ref pb)]))) st6 ?_
  rw [show own_min (1 : Int32) (1 : Int32) = (1 : Int32) from by decide]
  obtain ⟨ks7, Vs7⟩ := own_arv_of (z := (8 : Int32)) (dv := .int (0 : Int32)) V4 (show (8 : Int32).toNatClampNeg = 8 from by decide) (by decide) (own_fits8 hfl hfx hfy)
  obtain ⟨kd7, Vd7⟩ := own_arv_of (z := (1 : Int32)) (dv := .int (0 : Int32)) V2 (show (1 : Int32).toNatClampNeg = 1 from by decide) (by decide) own_fits1
  obtain ⟨T7, h7, L7, X7, e7, N7, K7, V7, st7⟩ := cpA X6 hx hZ hown w_69 w_72 w_70 w_71 e6 (us := [(.int py)]) (sp := (7 : Int32)) (dp := (0 : Int32)) (nn := (1 : Int32)) Vs7 Vd7 (Or.inl ⟨rfl, rfl⟩) (by decide) (by decide) (by decide) (by decide) (by decide) rfl (by decide) N6 gn2 (g := (mkF m 27 #[rv pb, iv (7 : Int32), iv (8 : Int32), iv (1 : Int32), rv a2] [(.int (1 : Int32)), (.int (0 : Int32)), (.ref a2), (.int (7 : Int32)), (.ref pb)])) rfl (by rw [hml]; rfl) rfl (hb hby own_cb7_d27) (by decide) (W := 0) (by show 2 * 0 + _ ≤ _; exact own_b rfl) (by decide)
  refine own_go (B := (T7.setTop (mkF m 30 #[rv pb, iv (7 : Int32), iv (8 : Int32), iv (1 : Int32), rv a2] []))) st7 ?_
  have F8 : n0 ≤ h7.size := Nat.le_trans Z3 K7.1
  have F9 := own_Ar_keep V4 K7 (ninS (Ne.symm ne2_pb) nin0)
  have F10 := Keep.trans K5 K7 (allS (Or.inr (Nat.le_trans K0.1 (Nat.le_of_eq ga2.symm))) all0)
  have VF7 : own_Ar Z h7 a2 .byte [(.int py)] := own_ar_of V7 (show (1 : Int32).toNatClampNeg = 1 from by decide)
  refine own_go (B := (T7.setTop (mkF m 32 #[rv pb, iv (7 : Int32), iv (8 : Int32), iv (1 : Int32), rv a2] [(.ref a2)]))) (fun t k => XS.aload X7.here hx rfl (hb hby own_cb7_d30) rfl rfl k) ?_
  exact own_retA X7 hx hlk Bd.returns rfl rfl (hb hby own_cb7_d32) (own_b rfl) (own_b rfl) (Q := (own_cb7_Q Z pb lw px py h0 n0)) (by rw [e7]; exact ⟨_, rfl, N7, F10, Nat.le_of_eq ga2.symm, VF7⟩)

theorem own_cr7_d0 : decode jdk_65_method_132_code 0 = .ok (.iload_n 1, 1) := by decide +kernel
theorem own_cr7_d1 : decode jdk_65_method_132_code 1 = .ok (.ifCond .ne 9, 3) := by decide +kernel
theorem own_cr7_d10 : decode jdk_65_method_132_code 10 = .ok (.aload_n 0, 1) := by decide +kernel
theorem own_cr7_d11 : decode jdk_65_method_132_code 11 = .ok (.iload_n 1, 1) := by decide +kernel
theorem own_cr7_d12 : decode jdk_65_method_132_code 12 = .ok (.iload_n 2, 1) := by decide +kernel
theorem own_cr7_d13 : decode jdk_65_method_132_code 13 = .ok (.invokestatic 339, 3) := by decide +kernel
theorem own_cr7_d16 : decode jdk_65_method_132_code 16 = .ok (.areturn, 1) := by decide +kernel
theorem own_cr7_pn : plainName "java/util/Arrays" = true := by first | (simp [plainName, overriddenIn]; done) | decide +kernel
theorem own_cr7_ef (m : MethodId) (pb : Addr) : entryFrame m #[(.ref pb), (.int (7 : Int32)), (.int (8 : Int32))] 3 = mkF m 0 #[rv pb, iv (7 : Int32), iv (8 : Int32)] [] := by first | (simp [entryFrame, mkF, argsToLocals, Value.category]; done) | rfl
def own_cr7_Q (Z : State) (pb : Addr) (lw px py : Int32) (h0 : Heap) (n0 : Nat) (v : Option Value) (h : Heap) (L : List Loc) : Prop := ∃ b, v = some (.ref b) ∧ Fr n0 L ∧ Keep h0 h [] ∧ h0.size ≤ b ∧ own_Ar Z h b .byte [(.int py)]
set_option maxRecDepth 65536 in
set_option maxHeartbeats 40000000 in
theorem own_cr7 (l : Launch) (Z : State) (a0 : Array Value) (hw : ∀ d ∈ tables_1, d.before a0 Z = true) (ws : List Jvm.Cond) (pb : Addr) (lw px py : Int32) (h0 : Heap) (n0 : Nat) (Z0 : n0 ≤ h0.size) (V0 : own_Ar Z h0 pb .byte [(.int (48 : Int32)), (.int lw), (.int (2 : Int32)), (.int (1 : Int32)), (.int px), (.int (2 : Int32)), (.int (1 : Int32)), (.int py)]) (hfl : fits .byte (.int lw) = true) (hfx : fits .byte (.int px) = true) (hfy : fits .byte (.int py) = true) :
    MetFree l own_y12 (head1 (Jvm.Cond.code own_y12 jdk_65_method_132_code 3 (some (.array .byte)) :: ws) ({ frames := 2, cells := 1, slots := 1, locals := 56 } : Room)) (fun a U => a = #[(.ref pb), (.int (7 : Int32)), (.int (8 : Int32))] ∧ Z.Warmed39 U.vm ∧ U.heap = h0) (fun _ _ _ _ _ => True) (fun _ U o U' => ∃ v L, o = .returned v ∧ (own_cr7_Q Z pb lw px py h0 n0) v U'.heap L ∧ FrameEnd U o U' L ({ frames := 2, cells := 1, slots := 1, locals := 56 } : Room).cells ({ frames := 2, cells := 1, slots := 1, locals := 56 } : Room).slots) := by
  refine MetFree.of_bodySF (plainFor_of_name own_cr7_pn) hisR ?_
  intro p e s m args below meth c s₁ Bd hml0 hP hK
  obtain ⟨rfl, hZ, hh⟩ := hP
  have hx := Bd.exec
  have hby := Bd.bytes
  have hml : c.maxLocals = 3 := hml0
  have hown : s.vm.findClass "java/util/Arrays" = some m.cls := findClass_of_methodNamed Bd.named
  have hnm := (name_of_methodNamed Bd.named Bd.method).1
  have hlk : meth.locks = false := Bd.notSynchronized
  have X0 : Stand p l e ({ frames := 2, cells := 1, slots := 1, locals := 56 } : Room) s m #[(.ref pb), (.int (7 : Int32)), (.int (8 : Int32))] below meth c s₁ [] 0 0 := Stand.of_body Bd
  have e0 : s₁.heap = h0 := by rw [← hh, Bd.state]; rfl
  have N0 := Fr.nil n0
  have w_57 := hw _ (List.mem_of_getElem? (l := tables_1) (i := 57) rfl)
  have w_59 := hw _ (List.mem_of_getElem? (l := tables_1) (i := 59) rfl)
  have w_60 := hw _ (List.mem_of_getElem? (l := tables_1) (i := 60) rfl)
  have w_61 := hw _ (List.mem_of_getElem? (l := tables_1) (i := 61) rfl)
  show own_G p.tables e below (fun o U' => ∃ v L, o = .returned v ∧ (own_cr7_Q Z pb lw px py h0 n0) v U'.heap L ∧ FrameEnd s o U' L ({ frames := 2, cells := 1, slots := 1, locals := 56 } : Room).cells ({ frames := 2, cells := 1, slots := 1, locals := 56 } : Room).slots) (s₁.setTop (entryFrame m #[(.ref pb), (.int (7 : Int32)), (.int (8 : Int32))] 3))
  refine own_go (B := s₁.setTop (mkF m 0 #[rv pb, iv (7 : Int32), iv (8 : Int32)] [])) (fun t k => castTop (own_cr7_ef m pb) k) ?_
  have K0 := Keep.refl h0 []
  refine own_go (B := (s₁.setTop (mkF m 1 #[rv pb, iv (7 : Int32), iv (8 : Int32)] [(.int (7 : Int32))]))) (fun t k => XS.iloadN X0.here hx rfl (hb hby own_cr7_d0) rfl k) ?_
  have hc1 : ¬ (7 : Int32) = (0 : Int32) := (by decide)
  refine own_ifY X0 hx (hb hby own_cr7_d1) (pc' := 10) (by decide) (by decide) hc1 ?_
  refine own_go (B := (s₁.setTop (mkF m 11 #[rv pb, iv (7 : Int32), iv (8 : Int32)] [(.ref pb)]))) (fun t k => XS.aloadN X0.here hx rfl (hb hby own_cr7_d10) rfl rfl k) ?_
  refine own_go (B := (s₁.setTop (mkF m 12 #[rv pb, iv (7 : Int32), iv (8 : Int32)] [(.int (7 : Int32)), (.ref pb)]))) (fun t k => XS.iloadN X0.here hx rfl (hb hby own_cr7_d11) rfl k) ?_
  refine own_go (B := (s₁.setTop (mkF m 13 #[rv pb, iv (7 : Int32), iv (8 : Int32)] [(.int (8 : Int32)), (.int (7 : Int32)), (.ref pb)]))) (fun t k => XS.iloadN X0.here hx rfl (hb hby own_cr7_d12) rfl k) ?_
  obtain ⟨_, _, ⟨T1, L1, k1, n1⟩, -, X1, ⟨Lc1, hQ1, l1, yy1, zz1⟩, st1⟩ := Jvm.LawKit.callS X0 hx (y := own_y11) hown (mvT hZ w_59) (mvT hZ w_60) (mvT hZ w_57) (mvT hZ w_61) (by decide) (backOf (W := 0) (own_cb7 l Z a0 hw [] pb lw px py h0 n0 Z0 V0 hfl hfx hfy) hZ w_61 w_57 (by decide) (by decide)) (g := (mkF m 13 #[rv pb, iv (7 : Int32), iv (8 : Int32)] [(.int (8 : Int32)), (.int (7 : Int32)), (.ref pb)])) rfl (by rw [hml]; rfl) (argsL := [(.ref pb), (.int (7 : Int32)), (.int (8 : Int32))]) (rest := []) (lenOf own_pd9 rfl) rfl (by show 2 * 0 + _ ≤ _; exact own_b rfl) (hb hby own_cr7_d13) (fun _ _ => ⟨rfl, e0, (own_b rfl : 0 + 1 ≤ _), (own_b rfl : 0 + 1 ≤ _)⟩)
  dsimp only [Pt.U, Pt.locs, Pt.cells, Pt.slots] at X1 l1 yy1 zz1 st1 hQ1
  obtain ⟨b1, rfl, Nq1, K1, gz1, gv1⟩ := hQ1
  obtain ⟨L1, X1, N1⟩ := own_absC (K := 1) (K' := 1) X1 l1 yy1 zz1 N0 Nq1
  have gn_b1 : n0 ≤ b1 := Nat.le_trans Z0 gz1
  have F2 : n0 ≤ T1.heap.size := Nat.le_trans Z0 K1.1
  have F3 := own_Ar_keep V0 K1 nin0
  have F4 := Keep.trans K0 K1 all0
  refine own_go (B := (T1.setTop (mkF m 16 #[rv pb, iv (7 : Int32), iv (8 : Int32)] [(.ref b1)]))) st1 ?_
  exact own_retA X1 hx hlk Bd.returns rfl rfl (hb hby own_cr7_d16) (own_b rfl) (own_b rfl) (Q := (own_cr7_Q Z pb lw px py h0 n0)) ⟨_, rfl, N1, F4, gz1, gv1⟩

theorem own_ig7_d0 : decode prog_1_method_4_code 0 = .ok (.aload_n 0, 1) := by decide +kernel
theorem own_ig7_d1 : decode prog_1_method_4_code 1 = .ok (.iconst 2, 1) := by decide +kernel
theorem own_ig7_d2 : decode prog_1_method_4_code 2 = .ok (.ldc 29, 2) := by decide +kernel
theorem own_ig7_d4 : decode prog_1_method_4_code 4 = .ok (.invokevirtual 25, 3) := by decide +kernel
theorem own_ig7_d7 : decode prog_1_method_4_code 7 = .ok (.istore_n 1, 1) := by decide +kernel
theorem own_ig7_d8 : decode prog_1_method_4_code 8 = .ok (.iload_n 1, 1) := by decide +kernel
theorem own_ig7_d9 : decode prog_1_method_4_code 9 = .ok (.ifCond .ne 13, 3) := by decide +kernel
theorem own_ig7_d22 : decode prog_1_method_4_code 22 = .ok (.iload_n 1, 1) := by decide +kernel
theorem own_ig7_d23 : decode prog_1_method_4_code 23 = .ok (.iconst 1, 1) := by decide +kernel
theorem own_ig7_d24 : decode prog_1_method_4_code 24 = .ok (.if_icmp .le 66, 3) := by decide +kernel
theorem own_ig7_d90 : decode prog_1_method_4_code 90 = .ok (.new 40, 3) := by decide +kernel
theorem own_ig7_d93 : decode prog_1_method_4_code 93 = .ok (.dup, 1) := by decide +kernel
theorem own_ig7_d94 : decode prog_1_method_4_code 94 = .ok (.aload_n 0, 1) := by decide +kernel
theorem own_ig7_d95 : decode prog_1_method_4_code 95 = .ok (.getfield 12, 3) := by decide +kernel
theorem own_ig7_d98 : decode prog_1_method_4_code 98 = .ok (.aload_n 0, 1) := by decide +kernel
theorem own_ig7_d99 : decode prog_1_method_4_code 99 = .ok (.getfield 16, 3) := by decide +kernel
theorem own_ig7_d102 : decode prog_1_method_4_code 102 = .ok (.aload_n 0, 1) := by decide +kernel
theorem own_ig7_d103 : decode prog_1_method_4_code 103 = .ok (.getfield 16, 3) := by decide +kernel
theorem own_ig7_d106 : decode prog_1_method_4_code 106 = .ok (.iload_n 1, 1) := by decide +kernel
theorem own_ig7_d107 : decode prog_1_method_4_code 107 = .ok (.iadd, 1) := by decide +kernel
theorem own_ig7_d108 : decode prog_1_method_4_code 108 = .ok (.invokestatic 42, 3) := by decide +kernel
theorem own_ig7_d111 : decode prog_1_method_4_code 111 = .ok (.invokespecial 48, 3) := by decide +kernel
theorem own_ig7_d114 : decode prog_1_method_4_code 114 = .ok (.astore_n 2, 1) := by decide +kernel
theorem own_ig7_d115 : decode prog_1_method_4_code 115 = .ok (.aload_n 0, 1) := by decide +kernel
theorem own_ig7_d116 : decode prog_1_method_4_code 116 = .ok (.dup, 1) := by decide +kernel
theorem own_ig7_d117 : decode prog_1_method_4_code 117 = .ok (.getfield 16, 3) := by decide +kernel
theorem own_ig7_d120 : decode prog_1_method_4_code 120 = .ok (.iload_n 1, 1) := by decide +kernel
theorem own_ig7_d121 : decode prog_1_method_4_code 121 = .ok (.iadd, 1) := by decide +kernel
theorem own_ig7_d122 : decode prog_1_method_4_code 122 = .ok (.putfield 16, 3) := by decide +kernel
theorem own_ig7_d125 : decode prog_1_method_4_code 125 = .ok (.aload_n 2, 1) := by decide +kernel
theorem own_ig7_d126 : decode prog_1_method_4_code 126 = .ok (.areturn, 1) := by decide +kernel
theorem own_ig7_pn : plainName "com/example/honeybee/honeybee/device/DerReader" = true := by first | (simp [plainName, overriddenIn]; done) | decide +kernel
theorem own_ig7_ef (m : MethodId) (th : Addr) : entryFrame m #[(.ref th)] 3 = mkF m 0 #[rv th, .unset, .unset] [] := by first | (simp [entryFrame, mkF, argsToLocals, Value.category]; done) | rfl
def own_ig7_Q (Z : State) (th : Addr) (ba : Addr) (en : Int32) (lw px py : Int32) (zz zm : Addr) (h0 : Heap) (n0 : Nat) (v : Option Value) (h : Heap) (L : List Loc) : Prop := ∃ b, v = some (.ref b) ∧ Fr n0 L ∧ Keep h0 h [th] ∧ Exa Z h th "com/example/honeybee/honeybee/device/DerReader" ∧ Fld Z h th "com/example/honeybee/honeybee/device/DerReader" "bytes" "[B" (.ref ba) ∧ Fld Z h th "com/example/honeybee/honeybee/device/DerReader" "position" "I" (.int (8 : Int32)) ∧ Fld Z h th "com/example/honeybee/honeybee/device/DerReader" "end" "I" (.int en)
set_option maxRecDepth 65536 in
set_option maxHeartbeats 40000000 in
theorem own_ig7 (l : Launch) (Z : State) (a0 : Array Value) (hw : ∀ d ∈ tables_1, d.before a0 Z = true) (ws : List Jvm.Cond) (th : Addr) (ba : Addr) (en : Int32) (lw px py : Int32) (zz zm : Addr) (h0 : Heap) (n0 : Nat) (Z0 : n0 ≤ h0.size) (E0 : Exa Z h0 th "com/example/honeybee/honeybee/device/DerReader") (g0 : n0 ≤ th) (F9000 : Fld Z h0 th "com/example/honeybee/honeybee/device/DerReader" "bytes" "[B" (.ref ba)) (F9001 : Fld Z h0 th "com/example/honeybee/honeybee/device/DerReader" "position" "I" (.int (5 : Int32))) (F9002 : Fld Z h0 th "com/example/honeybee/honeybee/device/DerReader" "end" "I" (.int en)) (V0 : own_Ar Z h0 ba .byte [(.int (48 : Int32)), (.int lw), (.int (2 : Int32)), (.int (1 : Int32)), (.int px), (.int (2 : Int32)), (.int (1 : Int32)), (.int py)]) (hfl : fits .byte (.int lw) = true) (hfx : fits .byte (.int px) = true) (hfy : fits .byte (.int py) = true) (q1 : ¬ (en - (5 : Int32)) < (2 : Int32)) (q5 : ¬ (en - (7 : Int32)) < (1 : Int32)) (ZS : Sta Z h0 "java/math/BigInteger" "ZERO" "Ljava/math/BigInteger;" (.ref zz)) (ZE : Exa Z h0 zz "java/math/BigInteger") (ZF : Fld Z h0 zz "java/math/BigInteger" "mag" "[I" (.ref zm)) (ZV : own_Ar Z h0 zm .int []) (nzz : th ≠ zz) :
    MetFree l own_y14 (head1 (Jvm.Cond.code own_y14 prog_1_method_4_code 3 (some (.object "java/math/BigInteger")) :: ws) ({ frames := 4, cells := 5, slots := 40, locals := 72 } : Room)) (fun a U => a = #[(.ref th)] ∧ Z.Warmed39 U.vm ∧ U.heap = h0) (fun _ _ _ _ _ => True) (fun _ U o U' => ∃ v L, o = .returned v ∧ (own_ig7_Q Z th ba en lw px py zz zm h0 n0) v U'.heap L ∧ ReturnedEndW U o U' L ({ frames := 4, cells := 5, slots := 40, locals := 72 } : Room).cells ({ frames := 4, cells := 5, slots := 40, locals := 72 } : Room).slots) := by
  refine MetFree.of_bodySF (plainFor_of_name own_ig7_pn) hisR ?_
  intro p e s m args below meth c s₁ Bd hml0 hP hK
  obtain ⟨rfl, hZ, hh⟩ := hP
  have hx := Bd.exec
  have hby := Bd.bytes
  have hml : c.maxLocals = 3 := hml0
  have hown : s.vm.findClass "com/example/honeybee/honeybee/device/DerReader" = some m.cls := findClass_of_methodNamed Bd.named
  have hnm := (name_of_methodNamed Bd.named Bd.method).1
  have hlk : meth.locks = false := Bd.notSynchronized
  have X0 : Stand p l e ({ frames := 4, cells := 5, slots := 40, locals := 72 } : Room) (s.setVm s.vm) m #[(.ref th)] below meth c s₁ [] 0 0 := Stand.of_body Bd
  have hS0 : s.Since s.vm 0 := own_since0 s 0
  have hk0 : 0 ≤ h0.size := Nat.zero_le _
  have hws := own_hws hw
  have e0 : s₁.heap = h0 := by rw [← hh, Bd.state]; rfl
  have N0 := Fr.nil n0
  have w_3 := hw _ (List.mem_of_getElem? (l := tables_1) (i := 3) rfl)
  have w_4 := hw _ (List.mem_of_getElem? (l := tables_1) (i := 4) rfl)
  have w_14 := hw _ (List.mem_of_getElem? (l := tables_1) (i := 14) rfl)
  have w_15 := hw _ (List.mem_of_getElem? (l := tables_1) (i := 15) rfl)
  have w_16 := hw _ (List.mem_of_getElem? (l := tables_1) (i := 16) rfl)
  have w_17 := hw _ (List.mem_of_getElem? (l := tables_1) (i := 17) rfl)
  have w_19 := hw _ (List.mem_of_getElem? (l := tables_1) (i := 19) rfl)
  have w_37 := hw _ (List.mem_of_getElem? (l := tables_1) (i := 37) rfl)
  have w_38 := hw _ (List.mem_of_getElem? (l := tables_1) (i := 38) rfl)
  have w_39 := hw _ (List.mem_of_getElem? (l := tables_1) (i := 39) rfl)
  have w_40 := hw _ (List.mem_of_getElem? (l := tables_1) (i := 40) rfl)
  have w_51 := hw _ (List.mem_of_getElem? (l := tables_1) (i := 51) rfl)
  have w_52 := hw _ (List.mem_of_getElem? (l := tables_1) (i := 52) rfl)
  have w_53 := hw _ (List.mem_of_getElem? (l := tables_1) (i := 53) rfl)
  have w_54 := hw _ (List.mem_of_getElem? (l := tables_1) (i := 54) rfl)
  have w_55 := hw _ (List.mem_of_getElem? (l := tables_1) (i := 55) rfl)
  have w_56 := hw _ (List.mem_of_getElem? (l := tables_1) (i := 56) rfl)
  have w_57 := hw _ (List.mem_of_getElem? (l := tables_1) (i := 57) rfl)
  have w_58 := hw _ (List.mem_of_getElem? (l := tables_1) (i := 58) rfl)
  have w_73 := hw _ (List.mem_of_getElem? (l := tables_1) (i := 73) rfl)
  have w_74 := hw _ (List.mem_of_getElem? (l := tables_1) (i := 74) rfl)
  have w_75 := hw _ (List.mem_of_getElem? (l := tables_1) (i := 75) rfl)
  have w_100 := hw _ (List.mem_of_getElem? (l := tables_1) (i := 100) rfl)
  have w_102 := hw _ (List.mem_of_getElem? (l := tables_1) (i := 102) rfl)
  show own_G p.tables e below (fun o U' => ∃ v L, o = .returned v ∧ (own_ig7_Q Z th ba en lw px py zz zm h0 n0) v U'.heap L ∧ ReturnedEndW s o U' L ({ frames := 4, cells := 5, slots := 40, locals := 72 } : Room).cells ({ frames := 4, cells := 5, slots := 40, locals := 72 } : Room).slots) (s₁.setTop (entryFrame m #[(.ref th)] 3))
  refine own_go (B := s₁.setTop (mkF m 0 #[rv th, .unset, .unset] [])) (fun t k => castTop (own_ig7_ef m th) k) ?_
  have K0 := Keep.refl h0 [th]
  have nba := own_Ar_ne E0 w_3 V0
  have nzm := own_Ar_ne E0 w_3 ZV
  refine own_go (B := (s₁.setTop (mkF m 1 #[rv th, .unset, .unset] [(.ref th)]))) (fun t k => XS.aloadN X0.here hx rfl (hb hby own_ig7_d0) rfl rfl k) ?_
  refine own_go (B := (s₁.setTop (mkF m 2 #[rv th, .unset, .unset] [(.int (2 : Int32)), (.ref th)]))) (fun t k => own_iconst (v := (2 : Int32)) X0.here hx rfl (hb hby own_ig7_d1) (by decide) k) ?_
  obtain ⟨a1, T1, h1, k1, X1, e1, E1, hS1, hk1, hZ1, ho1, st1⟩ := ldcS (s := s) (vm0 := s.vm) X0 hx hZ hown w_51 hws e0 hS0 hk0 (g := (mkF m 2 #[rv th, .unset, .unset] [(.int (2 : Int32)), (.ref th)])) rfl (hb hby own_ig7_d2) (n := 28) (by decide) (by decide) (own_b rfl) (own_b rfl)
  refine own_go (B := (T1.setTop (mkF m 4 #[rv th, .unset, .unset] [(.ref a1), (.int (2 : Int32)), (.ref th)]))) st1 ?_
  have Z2 : n0 ≤ h1.size := Nat.le_trans Z0 E1.1
  have F3 := Exa.ext E1 E0
  have K4 := Keep.ext K0 E1
  have F5 := Fld.ext E1 F9000
  have F6 := Fld.ext E1 F9001
  have F7 := Fld.ext E1 F9002
  have V8 := own_Ar_ext V0 E1
  have F9 := Sta.ext E1 ZS
  have F10 := Exa.ext E1 ZE
  have F11 := Fld.ext E1 ZF
  have V12 := own_Ar_ext ZV E1
  obtain ⟨pc13, pq13, pr13⟩ := Exa.cell F3
  obtain ⟨_, _, ⟨T13, L13, k13, n13⟩, -, X13, ⟨Lc13, hQ13, l13, yy13, zz13⟩, st13⟩ := X1.privateBack hx (y := own_y2) ho1 (mvT hZ1 w_37) (mvT hZ1 w_38) (own_selp hZ1 w_3 w_39 w_38 (by decide)) (Cond.privateMethod_at (mvP hZ1 w_39 (args := #[]))) (mvT hZ1 w_40) (by decide) (backOf (W := 0) (own_hd l Z a0 hw [] th (2 : Int32) a1 ba (5 : Int32) en (7 : Int32) (2 : Int32) (1 : Int32) (1 : Int32) [(.int (48 : Int32)), (.int lw), (.int (2 : Int32)), (.int (1 : Int32)), (.int px), (.int (2 : Int32)), (.int (1 : Int32)), (.int py)] h1 n0 Z2 F3 g0 F5 F6 F7 V8 (by decide) (by decide) q1 rfl (by decide) rfl (by decide) (by decide) (by decide) q5) hZ1 w_40 w_4 (by decide) (by decide)) (g := (mkF m 4 #[rv th, .unset, .unset] [(.ref a1), (.int (2 : Int32)), (.ref th)])) rfl (by rw [hml]; rfl) (Steps.refl _) (a := th) (by rw [e1]; exact pq13) pr13 (argsL := [(.int (2 : Int32)), (.ref a1)]) (rest := []) (lenOf own_pd2 rfl) rfl (by show 2 * 0 + _ ≤ _; exact own_b rfl) (hb hby own_ig7_d4) (fun _ _ => ⟨rfl, e1, (own_b rfl : 2 + 0 ≤ _), (own_b rfl : 32 + 0 ≤ _)⟩)
  dsimp only [Pt.U, Pt.locs, Pt.cells, Pt.slots] at X13 l13 yy13 zz13 st13 hQ13
  obtain ⟨rfl, Nq13, K13, Ex13, gb13, gp13, ge13⟩ := hQ13
  obtain ⟨L13, X13, N13⟩ := own_absC (K := 2) (K' := 32) X13 l13 yy13 zz13 N0 Nq13
  have F14 : n0 ≤ T13.heap.size := Nat.le_trans Z2 K13.1
  have F15 := Exa.keep F3 K13
  have F16 := Keep.trans K4 K13 (allS (Or.inl (List.mem_of_getElem? (i := 0) rfl)) all0)
  have F20 := own_Ar_keep V8 K13 (ninS (Ne.symm nba) nin0)
  have F21 := own_sta_keep F9 K13 (nsS (Exa.nostat F3) ns0)
  have F22 := Exa.keep F10 K13
  have F23 := Fld.keep F11 K13 (ninS (Ne.symm nzz) nin0)
  have F24 := own_Ar_keep V12 K13 (ninS (Ne.symm nzm) nin0)
  have F25 : k1 ≤ T13.heap.size := Nat.le_trans hk1 K13.1
  refine own_tr (B := (T13.setTop (mkF m 7 #[rv th, .unset, .unset] [(.int (1 : Int32))]))) st13 ?_
  refine own_go (B := (T13.setTop (mkF m 8 #[rv th, iv (1 : Int32), .unset] []))) (fun t k => XS.istoreN X13.here hx rfl (hb hby own_ig7_d7) rfl (l' := #[rv th, iv (1 : Int32), .unset]) rfl k) ?_
  refine own_go (B := (T13.setTop (mkF m 9 #[rv th, iv (1 : Int32), .unset] [(.int (1 : Int32))]))) (fun t k => XS.iloadN X13.here hx rfl (hb hby own_ig7_d8) rfl k) ?_
  have hc9 : ¬ (1 : Int32) = (0 : Int32) := (by decide)
  refine own_ifY X13 hx (hb hby own_ig7_d9) (pc' := 22) (by decide) (by decide) hc9 ?_
  refine own_go (B := (T13.setTop (mkF m 23 #[rv th, iv (1 : Int32), .unset] [(.int (1 : Int32))]))) (fun t k => XS.iloadN X13.here hx rfl (hb hby own_ig7_d22) rfl k) ?_
  refine own_go (B := (T13.setTop (mkF m 24 #[rv th, iv (1 : Int32), .unset] [(.int (1 : Int32)), (.int (1 : Int32))]))) (fun t k => own_iconst (v := (1 : Int32)) X13.here hx rfl (hb hby own_ig7_d23) (by decide) k) ?_
  have hc24 : ¬ (1 : Int32) < (1 : Int32) := (by decide)
  refine own_icmpY X13 hx (hb hby own_ig7_d24) (pc' := 90) (by decide) (by decide) hc24 ?_
  obtain ⟨T26, h26, X26, e26, E26, A26, D26, U26, st26⟩ := newO X13 hx hZ1 ho1 w_52 w_53 w_54 rfl (g := (mkF m 90 #[rv th, iv (1 : Int32), .unset] [])) rfl (hb hby own_ig7_d90) (own_b rfl) (own_b rfl)
  obtain ⟨a26, ga26⟩ : ∃ z, z = T13.heap.size := ⟨_, rfl⟩
  rw [← ga26] at A26 D26 U26 st26
  refine own_go (B := (T26.setTop (mkF m 93 #[rv th, iv (1 : Int32), .unset] [(.ref a26)]))) st26 ?_
  have Z27 : n0 ≤ h26.size := Nat.le_trans F14 E26.1
  have F28 := Exa.ext E26 Ex13
  have K29 := Keep.ext F16 E26
  have V30 := own_Ar_ext F20 E26
  have F31 := Sta.ext E26 F21
  have F32 := Exa.ext E26 F22
  have F33 := Fld.ext E26 F23
  have V34 := own_Ar_ext F24 E26
  have Z35 : k1 ≤ h26.size := Nat.le_trans F25 E26.1
  have F36 := Fld.ext E26 gb13
  have F37 := Fld.ext E26 gp13
  have F38 := Fld.ext E26 ge13
  have gn26 : n0 ≤ a26 := Nat.le_trans F14 (Nat.le_of_eq ga26.symm)
  have ne26_th : a26 ≠ th := fun q => absurd (Ex13.lt) (by rw [← q, ga26]; exact Nat.lt_irrefl _)
  have ne26_ba : a26 ≠ ba := fun q => absurd (own_Ar_lt F20) (by rw [← q, ga26]; exact Nat.lt_irrefl _)
  have ne26_zz : a26 ≠ zz := fun q => absurd (F22.lt) (by rw [← q, ga26]; exact Nat.lt_irrefl _)
  have ne26_zm : a26 ≠ zm := fun q => absurd (own_Ar_lt F24) (by rw [← q, ga26]; exact Nat.lt_irrefl _)
  have F39 : Fld Z h26 a26 "java/math/BigInteger" "mag" "[I" .null := D26 (Or.inr w_100) (ty := (.array .int)) (by decide)
  have F40 : Fld Z h26 a26 "java/math/BigInteger" "signum" "I" (.int (0 : Int32)) := D26 (Or.inr w_102) (ty := .int) (by decide)
  refine own_go (B := (T26.setTop (mkF m 94 #[rv th, iv (1 : Int32), .unset] [(.ref a26), (.ref a26)]))) (fun t k => XS.dup X26.here hx rfl (hb hby own_ig7_d93) rfl rfl k) ?_
  refine own_go (B := (T26.setTop (mkF m 95 #[rv th, iv (1 : Int32), .unset] [(.ref th), (.ref a26), (.ref a26)]))) (fun t k => XS.aloadN X26.here hx rfl (hb hby own_ig7_d94) rfl rfl k) ?_
  obtain ⟨T41, X41, e41, st41⟩ := getF X26 hx hZ1 ho1 (host := "") (Or.inl w_14) Via.refl e26 F36 (g := (mkF m 95 #[rv th, iv (1 : Int32), .unset] [(.ref th), (.ref a26), (.ref a26)])) rfl rfl (hb hby own_ig7_d95)
  refine own_go (B := (T41.setTop (mkF m 98 #[rv th, iv (1 : Int32), .unset] [(.ref ba), (.ref a26), (.ref a26)]))) st41 ?_
  refine own_go (B := (T41.setTop (mkF m 99 #[rv th, iv (1 : Int32), .unset] [(.ref th), (.ref ba), (.ref a26), (.ref a26)]))) (fun t k => XS.aloadN X41.here hx rfl (hb hby own_ig7_d98) rfl rfl k) ?_
  obtain ⟨T42, X42, e42, st42⟩ := getF X41 hx hZ1 ho1 (host := "") (Or.inl w_16) Via.refl e41 F37 (g := (mkF m 99 #[rv th, iv (1 : Int32), .unset] [(.ref th), (.ref ba), (.ref a26), (.ref a26)])) rfl rfl (hb hby own_ig7_d99)
  refine own_go (B := (T42.setTop (mkF m 102 #[rv th, iv (1 : Int32), .unset] [(.int (7 : Int32)), (.ref ba), (.ref a26), (.ref a26)]))) st42 ?_
  refine own_go (B := (T42.setTop (mkF m 103 #[rv th, iv (1 : Int32), .unset] [(.ref th), (.int (7 : Int32)), (.ref ba), (.ref a26), (.ref a26)]))) (fun t k => XS.aloadN X42.here hx rfl (hb hby own_ig7_d102) rfl rfl k) ?_
  obtain ⟨T43, X43, e43, st43⟩ := getF X42 hx hZ1 ho1 (host := "") (Or.inl w_16) Via.refl e42 F37 (g := (mkF m 103 #[rv th, iv (1 : Int32), .unset] [(.ref th), (.int (7 : Int32)), (.ref ba), (.ref a26), (.ref a26)])) rfl rfl (hb hby own_ig7_d103)
  refine own_go (B := (T43.setTop (mkF m 106 #[rv th, iv (1 : Int32), .unset] [(.int (7 : Int32)), (.int (7 : Int32)), (.ref ba), (.ref a26), (.ref a26)]))) st43 ?_
  refine own_go (B := (T43.setTop (mkF m 107 #[rv th, iv (1 : Int32), .unset] [(.int (1 : Int32)), (.int (7 : Int32)), (.int (7 : Int32)), (.ref ba), (.ref a26), (.ref a26)]))) (fun t k => XS.iloadN X43.here hx rfl (hb hby own_ig7_d106) rfl k) ?_
  refine own_go (B := (T43.setTop (mkF m 108 #[rv th, iv (1 : Int32), .unset] [(.int ((7 : Int32) + (1 : Int32))), (.int (7 : Int32)), (.ref ba), (.ref a26), (.ref a26)]))) (fun t k => XS.iadd (x := (7 : Int32)) (y := (1 : Int32)) X43.here hx rfl (hb hby own_ig7_d107) rfl k) ?_
  rw [show ((7 : Int32) + (1 : Int32)) = (8 : Int32) from by decide]
  obtain ⟨_, _, ⟨T44, L44, k44, n44⟩, -, X44, ⟨Lc44, hQ44, l44, yy44, zz44⟩, st44⟩ := Jvm.LawKit.callS X43 hx (y := own_y12) ho1 (mvT hZ1 w_55) (mvT hZ1 w_56) (mvT hZ1 w_57) (mvT hZ1 w_58) (by decide) (backOf (W := 2) (own_cr7 l Z a0 hw [] ba lw px py h26 n0 Z27 V30 hfl hfx hfy) hZ1 w_58 w_57 (by decide) (by decide)) (g := (mkF m 108 #[rv th, iv (1 : Int32), .unset] [(.int (8 : Int32)), (.int (7 : Int32)), (.ref ba), (.ref a26), (.ref a26)])) rfl (by rw [hml]; rfl) (argsL := [(.ref ba), (.int (7 : Int32)), (.int (8 : Int32))]) (rest := [(.ref a26), (.ref a26)]) (lenOf own_pd9 rfl) rfl (by show 2 * 0 + _ ≤ _; exact own_b rfl) (hb hby own_ig7_d108) (fun _ _ => ⟨rfl, e43, (own_b rfl : 3 + 1 ≤ _), (own_b rfl : 38 + 1 ≤ _)⟩)
  dsimp only [Pt.U, Pt.locs, Pt.cells, Pt.slots] at X44 l44 yy44 zz44 st44 hQ44
  obtain ⟨b44, rfl, Nq44, K44, gz44, gv44⟩ := hQ44
  obtain ⟨L44, X44, N44⟩ := own_absC (K := 4) (K' := 39) X44 l44 yy44 zz44 N13 Nq44
  have gn_b44 : n0 ≤ b44 := Nat.le_trans Z27 gz44
  have nb44_th : b44 ≠ th := fun q => absurd F28.lt (by rw [← q]; exact Nat.not_lt.mpr gz44)
  have nb44_zz : b44 ≠ zz := fun q => absurd F32.lt (by rw [← q]; exact Nat.not_lt.mpr gz44)
  have nb44_a26 : b44 ≠ a26 := fun q => absurd A26.lt (by rw [← q]; exact Nat.not_lt.mpr gz44)
  have F45 : n0 ≤ T44.heap.size := Nat.le_trans Z27 K44.1
  have F46 := Exa.keep F28 K44
  have F47 := Keep.trans K29 K44 all0
  have F48 := own_Ar_keep V30 K44 nin0
  have F49 := own_sta_keep F31 K44 ns0
  have F50 := Exa.keep F32 K44
  have F51 := Fld.keep F33 K44 nin0
  have F52 := own_Ar_keep V34 K44 nin0
  have F53 : k1 ≤ T44.heap.size := Nat.le_trans Z35 K44.1
  have F54 := Fld.keep F36 K44 nin0
  have F55 := Fld.keep F37 K44 nin0
  have F56 := Fld.keep F38 K44 nin0
  have F57 := Exa.keep A26 K44
  have F58 := Fld.keep F39 K44 nin0
  have F59 := Fld.keep F40 K44 nin0
  refine own_go (B := (T44.setTop (mkF m 111 #[rv th, iv (1 : Int32), .unset] [(.ref b44), (.ref a26), (.ref a26)]))) st44 ?_
  obtain ⟨_, _, ⟨T60, L60, k60, n60⟩, -, X60, ⟨Lc60, hQ60, l60, yy60, zz60⟩, st60⟩ := X44.specialBack hx (y := own_y13) rfl ho1 (mvT hZ1 w_73) (mvT hZ1 w_74) (mvT hZ1 w_75) (by decide) (backOf (W := 1) (own_b1 l Z a0 hw [] a26 b44 py zz zm T44.heap n0 F45 F57 gn26 F58 F59 gv44 F49 F50 F51 F52) hZ1 w_75 w_54 (by decide) (by decide)) (g := (mkF m 111 #[rv th, iv (1 : Int32), .unset] [(.ref b44), (.ref a26), (.ref a26)])) rfl (by rw [hml]; rfl) (Steps.refl _) (a := a26) (argsL := [(.ref b44)]) (rest := [(.ref a26)]) (lenOf own_pd10 rfl) rfl (by show 2 * 0 + _ ≤ _; exact own_b rfl) (hb hby own_ig7_d111) (fun _ _ => ⟨rfl, rfl, (own_b rfl : 4 + 1 ≤ _), (own_b rfl : 39 + 1 ≤ _)⟩)
  dsimp only [Pt.U, Pt.locs, Pt.cells, Pt.slots] at X60 l60 yy60 zz60 st60 hQ60
  obtain ⟨rfl, Nq60, K60⟩ := hQ60
  obtain ⟨L60, X60, N60⟩ := own_absC (K := 5) (K' := 40) X60 l60 yy60 zz60 N44 Nq60
  have F61 : n0 ≤ T60.heap.size := Nat.le_trans F45 K60.1
  have F62 := Exa.keep F46 K60
  have F63 := Keep.trans F47 K60 (allS (Or.inr (Nat.le_trans F16.1 (Nat.le_of_eq ga26.symm))) all0)
  have F64 := own_Ar_keep F48 K60 (ninS (Ne.symm ne26_ba) nin0)
  have F65 := own_sta_keep F49 K60 (nsS (Exa.nostat F57) ns0)
  have F66 := Exa.keep F50 K60
  have F67 := Fld.keep F51 K60 (ninS (Ne.symm ne26_zz) nin0)
  have F68 := own_Ar_keep F52 K60 (ninS (Ne.symm ne26_zm) nin0)
  have F69 : k1 ≤ T60.heap.size := Nat.le_trans F53 K60.1
  have F70 := Fld.keep F54 K60 (ninS (Ne.symm ne26_th) nin0)
  have F71 := Fld.keep F55 K60 (ninS (Ne.symm ne26_th) nin0)
  have F72 := Fld.keep F56 K60 (ninS (Ne.symm ne26_th) nin0)
  have F73 := Exa.keep F57 K60
  have F76 := own_Ar_keep gv44 K60 (ninS nb44_a26 nin0)
  refine own_tr (B := (T60.setTop (mkF m 114 #[rv th, iv (1 : Int32), .unset] [(.ref a26)]))) st60 ?_
  refine own_go (B := (T60.setTop (mkF m 115 #[rv th, iv (1 : Int32), rv a26] []))) (fun t k => XS.astoreN X60.here hx rfl (hb hby own_ig7_d114) rfl rfl (l' := #[rv th, iv (1 : Int32), rv a26]) rfl k) ?_
  refine own_go (B := (T60.setTop (mkF m 116 #[rv th, iv (1 : Int32), rv a26] [(.ref th)]))) (fun t k => XS.aloadN X60.here hx rfl (hb hby own_ig7_d115) rfl rfl k) ?_
  refine own_go (B := (T60.setTop (mkF m 117 #[rv th, iv (1 : Int32), rv a26] [(.ref th), (.ref th)]))) (fun t k => XS.dup X60.here hx rfl (hb hby own_ig7_d116) rfl rfl k) ?_
  obtain ⟨T77, X77, e77, st77⟩ := getF X60 hx hZ1 ho1 (host := "") (Or.inl w_16) Via.refl rfl F71 (g := (mkF m 117 #[rv th, iv (1 : Int32), rv a26] [(.ref th), (.ref th)])) rfl rfl (hb hby own_ig7_d117)
  refine own_go (B := (T77.setTop (mkF m 120 #[rv th, iv (1 : Int32), rv a26] [(.int (7 : Int32)), (.ref th)]))) st77 ?_
  refine own_go (B := (T77.setTop (mkF m 121 #[rv th, iv (1 : Int32), rv a26] [(.int (1 : Int32)), (.int (7 : Int32)), (.ref th)]))) (fun t k => XS.iloadN X77.here hx rfl (hb hby own_ig7_d120) rfl k) ?_
  refine own_go (B := (T77.setTop (mkF m 122 #[rv th, iv (1 : Int32), rv a26] [(.int ((7 : Int32) + (1 : Int32))), (.ref th)]))) (fun t k => XS.iadd (x := (7 : Int32)) (y := (1 : Int32)) X77.here hx rfl (hb hby own_ig7_d121) rfl k) ?_
  rw [show ((7 : Int32) + (1 : Int32)) = (8 : Int32) from by decide]
  obtain ⟨T78, h78, X78, e78, W78, st78⟩ := putF X77 hx hZ1 ho1 (host := "") (Or.inl w_16) Via.refl e77 F71 F62 (Or.inl w_17) w_3 (ty := .int) (by decide) rfl rfl (g := (mkF m 122 #[rv th, iv (1 : Int32), rv a26] [(.int (8 : Int32)), (.ref th)])) rfl rfl (hb hby own_ig7_d122)
  refine own_go (B := (T78.setTop (mkF m 125 #[rv th, iv (1 : Int32), rv a26] []))) st78 ?_
  obtain ⟨L78, X78, N78⟩ := own_abs X78 (Fr.snoc X78 N60 g0)
  have F79 : n0 ≤ h78.size := by rw [W78.size]; exact F61
  have F80 := Exa.wr W78 F62
  have F81 := Keep.wr F63 W78 (Or.inl (List.mem_of_getElem? (i := 0) rfl))
  have F82 := own_Ar_other F64 W78 (Ne.symm nba)
  have F83 := Sta.wr W78 F65
  have F84 := Exa.wr W78 F66
  have F85 := Fld.other W78 F67 (Or.inl (Ne.symm nzz))
  have F86 := own_Ar_other F68 W78 (Ne.symm nzm)
  have F87 : k1 ≤ h78.size := by rw [W78.size]; exact F69
  have F88 := Fld.other W78 F70 (Or.inr (slot_ne (t := (.array .byte)) (t' := .int) (Or.inr w_15) (Or.inl w_17) (by decide) (by decide) (by decide)))
  have F89 := Fld.same W78 F71
  have F90 := Fld.other W78 F72 (Or.inr (slot_ne (t := .int) (t' := .int) (Or.inr w_19) (Or.inl w_17) (by decide) (by decide) (by decide)))
  have F91 := Exa.wr W78 F73
  have F92 := own_Ar_other F76 W78 nb44_th
  refine own_go (B := (T78.setTop (mkF m 126 #[rv th, iv (1 : Int32), rv a26] [(.ref a26)]))) (fun t k => XS.aloadN X78.here hx rfl (hb hby own_ig7_d125) rfl rfl k) ?_
  exact own_retWA X78 hx hlk hS1 (by rw [e78]; exact F87) Bd.returns rfl rfl (hb hby own_ig7_d126) (own_b rfl) (own_b rfl) (Q := (own_ig7_Q Z th ba en lw px py zz zm h0 n0)) (by rw [e78]; exact ⟨_, rfl, N78, F81, F80, F88, F89, F90⟩)

theorem own_ro7_d0 : decode method_3_code 0 = .ok (.iload_n 1, 1) := by decide +kernel
theorem own_ro7_d1 : decode method_3_code 1 = .ok (.ifCond .eq 11, 3) := by decide +kernel
theorem own_ro7_d4 : decode method_3_code 4 = .ok (.aload_n 0, 1) := by decide +kernel
theorem own_ro7_d5 : decode method_3_code 5 = .ok (.invokevirtual 27, 3) := by decide +kernel
theorem own_ro7_d8 : decode method_3_code 8 = .ok (.pop, 1) := by decide +kernel
theorem own_ro7_d9 : decode method_3_code 9 = .ok (.goto 7, 3) := by decide +kernel
theorem own_ro7_d16 : decode method_3_code 16 = .ok (.return_, 1) := by decide +kernel
theorem own_ro7_pn : plainName "com/example/honeybee/honeybee/device/DerReaderAtEndPinLaw" = true := by first | (simp [plainName, overriddenIn]; done) | decide +kernel
theorem own_ro7_ef (m : MethodId) (th : Addr) : entryFrame m #[(.ref th), (.int (1 : Int32))] 2 = mkF m 0 #[rv th, iv (1 : Int32)] [] := by first | (simp [entryFrame, mkF, argsToLocals, Value.category]; done) | rfl
def own_ro7_Q (Z : State) (th : Addr) (ba : Addr) (en : Int32) (lw px py : Int32) (zz zm : Addr) (h0 : Heap) (n0 : Nat) (v : Option Value) (h : Heap) (L : List Loc) : Prop := v = none ∧ Fr n0 L ∧ Keep h0 h [th] ∧ Exa Z h th "com/example/honeybee/honeybee/device/DerReader" ∧ Fld Z h th "com/example/honeybee/honeybee/device/DerReader" "bytes" "[B" (.ref ba) ∧ Fld Z h th "com/example/honeybee/honeybee/device/DerReader" "position" "I" (.int (8 : Int32)) ∧ Fld Z h th "com/example/honeybee/honeybee/device/DerReader" "end" "I" (.int en)
set_option maxRecDepth 65536 in
set_option maxHeartbeats 40000000 in
theorem own_ro7 (l : Launch) (Z : State) (a0 : Array Value) (hw : ∀ d ∈ tables_1, d.before a0 Z = true) (ws : List Jvm.Cond) (th : Addr) (ba : Addr) (en : Int32) (lw px py : Int32) (zz zm : Addr) (h0 : Heap) (n0 : Nat) (Z0 : n0 ≤ h0.size) (E0 : Exa Z h0 th "com/example/honeybee/honeybee/device/DerReader") (g0 : n0 ≤ th) (F9000 : Fld Z h0 th "com/example/honeybee/honeybee/device/DerReader" "bytes" "[B" (.ref ba)) (F9001 : Fld Z h0 th "com/example/honeybee/honeybee/device/DerReader" "position" "I" (.int (5 : Int32))) (F9002 : Fld Z h0 th "com/example/honeybee/honeybee/device/DerReader" "end" "I" (.int en)) (V0 : own_Ar Z h0 ba .byte [(.int (48 : Int32)), (.int lw), (.int (2 : Int32)), (.int (1 : Int32)), (.int px), (.int (2 : Int32)), (.int (1 : Int32)), (.int py)]) (hfl : fits .byte (.int lw) = true) (hfx : fits .byte (.int px) = true) (hfy : fits .byte (.int py) = true) (q1 : ¬ (en - (5 : Int32)) < (2 : Int32)) (q5 : ¬ (en - (7 : Int32)) < (1 : Int32)) (ZS : Sta Z h0 "java/math/BigInteger" "ZERO" "Ljava/math/BigInteger;" (.ref zz)) (ZE : Exa Z h0 zz "java/math/BigInteger") (ZF : Fld Z h0 zz "java/math/BigInteger" "mag" "[I" (.ref zm)) (ZV : own_Ar Z h0 zm .int []) (nzz : th ≠ zz) :
    MetFree l own_y19 (head1 (Jvm.Cond.code own_y19 method_3_code 2 none :: ws) ({ frames := 5, cells := 5, slots := 40, locals := 86 } : Room)) (fun a U => a = #[(.ref th), (.int (1 : Int32))] ∧ Z.Warmed39 U.vm ∧ U.heap = h0) (fun _ _ _ _ _ => True) (fun _ U o U' => ∃ v L, o = .returned v ∧ (own_ro7_Q Z th ba en lw px py zz zm h0 n0) v U'.heap L ∧ ReturnedEndW U o U' L ({ frames := 5, cells := 5, slots := 40, locals := 86 } : Room).cells ({ frames := 5, cells := 5, slots := 40, locals := 86 } : Room).slots) := by
  refine MetFree.of_bodySF (plainFor_of_name own_ro7_pn) hisR ?_
  intro p e s m args below meth c s₁ Bd hml0 hP hK
  obtain ⟨rfl, hZ, hh⟩ := hP
  have hx := Bd.exec
  have hby := Bd.bytes
  have hml : c.maxLocals = 2 := hml0
  have hown : s.vm.findClass "com/example/honeybee/honeybee/device/DerReaderAtEndPinLaw" = some m.cls := findClass_of_methodNamed Bd.named
  have hnm := (name_of_methodNamed Bd.named Bd.method).1
  have hlk : meth.locks = false := Bd.notSynchronized
  have X0 : Stand p l e ({ frames := 5, cells := 5, slots := 40, locals := 86 } : Room) (s.setVm s.vm) m #[(.ref th), (.int (1 : Int32))] below meth c s₁ [] 0 0 := Stand.of_body Bd
  have hS0 : s.Since s.vm 0 := own_since0 s 0
  have hk0 : 0 ≤ h0.size := Nat.zero_le _
  have hws := own_hws hw
  have e0 : s₁.heap = h0 := by rw [← hh, Bd.state]; rfl
  have N0 := Fr.nil n0
  have w_3 := hw _ (List.mem_of_getElem? (l := tables_1) (i := 3) rfl)
  have w_4 := hw _ (List.mem_of_getElem? (l := tables_1) (i := 4) rfl)
  have w_46 := hw _ (List.mem_of_getElem? (l := tables_1) (i := 46) rfl)
  have w_47 := hw _ (List.mem_of_getElem? (l := tables_1) (i := 47) rfl)
  have w_48 := hw _ (List.mem_of_getElem? (l := tables_1) (i := 48) rfl)
  have w_49 := hw _ (List.mem_of_getElem? (l := tables_1) (i := 49) rfl)
  have w_50 := hw _ (List.mem_of_getElem? (l := tables_1) (i := 50) rfl)
  show own_G p.tables e below (fun o U' => ∃ v L, o = .returned v ∧ (own_ro7_Q Z th ba en lw px py zz zm h0 n0) v U'.heap L ∧ ReturnedEndW s o U' L ({ frames := 5, cells := 5, slots := 40, locals := 86 } : Room).cells ({ frames := 5, cells := 5, slots := 40, locals := 86 } : Room).slots) (s₁.setTop (entryFrame m #[(.ref th), (.int (1 : Int32))] 2))
  refine own_go (B := s₁.setTop (mkF m 0 #[rv th, iv (1 : Int32)] [])) (fun t k => castTop (own_ro7_ef m th) k) ?_
  have K0 := Keep.refl h0 [th]
  have nba := own_Ar_ne E0 w_3 V0
  have nzm := own_Ar_ne E0 w_3 ZV
  refine own_go (B := (s₁.setTop (mkF m 1 #[rv th, iv (1 : Int32)] [(.int (1 : Int32))]))) (fun t k => XS.iloadN X0.here hx rfl (hb hby own_ro7_d0) rfl k) ?_
  have hc1 : ¬ (1 : Int32) = (0 : Int32) := (by decide)
  refine own_ifN X0 hx (hb hby own_ro7_d1) (pn := 4) rfl hc1 ?_
  refine own_go (B := (s₁.setTop (mkF m 5 #[rv th, iv (1 : Int32)] [(.ref th)]))) (fun t k => XS.aloadN X0.here hx rfl (hb hby own_ro7_d4) rfl rfl k) ?_
  obtain ⟨cq1, kq1, qa1, qb1, qc1⟩ := isOf hZ e0 E0
  obtain ⟨_, _, ⟨T1, L1, k1, n1⟩, -, X1, hs1, hg1, ⟨Lc1, hQ1, l1, yy1, zz1⟩, st1⟩ := X0.virtualBackS hx (y := own_y14) (z := own_y14) hown (mvT hZ w_46) (mvT hZ w_47) (notFace_of_selects (args := #[]) (mvT hZ w_49)) (mvT hZ w_49) (mvT hZ w_48) (by decide) (backOfS (W := 0) (own_ig7 l Z a0 hw [] th ba en lw px py zz zm h0 n0 Z0 E0 g0 F9000 F9001 F9002 V0 hfl hfx hfy q1 q5 ZS ZE ZF ZV nzz) hZ w_50 w_4 (by decide) (by decide)) qa1 qc1 (g := (mkF m 5 #[rv th, iv (1 : Int32)] [(.ref th)])) rfl (by rw [hml]; rfl) (Steps.refl _) (argsL := []) (rest := []) (lenOf own_pd11 rfl) rfl (by show 2 * 0 + _ ≤ _; exact own_b rfl) (hb hby own_ro7_d5) (fun _ _ => ⟨rfl, e0, (own_b rfl : 0 + 5 ≤ _), (own_b rfl : 0 + 40 ≤ _)⟩)
  dsimp only [Pt.U, Pt.locs, Pt.cells, Pt.slots] at X1 l1 yy1 zz1 st1 hQ1 hs1 hg1
  obtain ⟨b1, rfl, Nq1, K1, Ex1, gb1, gp1, ge1⟩ := hQ1
  obtain ⟨L1, X1, N1⟩ := own_absC (K := 5) (K' := 40) X1 l1 yy1 zz1 N0 Nq1
  have X1 : Stand p l e ({ frames := 5, cells := 5, slots := 40, locals := 86 } : Room) (s.setVm T1.vm) m #[(.ref th), (.int (1 : Int32))] below meth c T1 L1 5 40 := X1
  have hS1 := foldS hS0 (T := s₁) (by rw [e0]; exact hk0) hs1 hg1
  have hZ1 : Z.Warmed39 (s.setVm T1.vm).vm := State.Warmed39.trans (t := s.setVm s.vm) hZ hs1.1
  have ho1 : (s.setVm T1.vm).vm.findClass "com/example/honeybee/honeybee/device/DerReaderAtEndPinLaw" = some m.cls := by rw [show (s.setVm T1.vm).vm = T1.vm from rfl, hs1.1.alike.findClass]; exact hown
  have F2 : n0 ≤ T1.heap.size := Nat.le_trans Z0 K1.1
  have F3 := Exa.keep E0 K1
  have F4 := Keep.trans K0 K1 (allS (Or.inl (List.mem_of_getElem? (i := 0) rfl)) all0)
  have F8 := own_Ar_keep V0 K1 (ninS (Ne.symm nba) nin0)
  have F9 := own_sta_keep ZS K1 (nsS (Exa.nostat E0) ns0)
  have F10 := Exa.keep ZE K1
  have F11 := Fld.keep ZF K1 (ninS (Ne.symm nzz) nin0)
  have F12 := own_Ar_keep ZV K1 (ninS (Ne.symm nzm) nin0)
  have hk1 : T1.heap.size ≤ T1.heap.size := Nat.le_refl _
  refine own_tr (B := (T1.setTop (mkF m 8 #[rv th, iv (1 : Int32)] [(.ref b1)]))) st1 ?_
  refine own_go (B := (T1.setTop (mkF m 9 #[rv th, iv (1 : Int32)] []))) (fun t k => XS.pop X1.here hx rfl (hb hby own_ro7_d8) rfl rfl k) ?_
  refine own_go (B := (T1.setTop (mkF m 16 #[rv th, iv (1 : Int32)] []))) (fun t k => XS.goto X1.here hx rfl (pc0 := 9) (pc' := 16) rfl (hb hby own_ro7_d9) (by decide) (by decide) k) ?_
  exact own_retWV X1 hx hlk hS1 hk1 Bd.returns (hb hby own_ro7_d16) (own_b rfl) (own_b rfl) (Q := (own_ro7_Q Z th ba en lw px py zz zm h0 n0)) ⟨rfl, N1, F4, Ex1, gb1, gp1, ge1⟩

theorem own_ro0_d0 : decode method_3_code 0 = .ok (.iload_n 1, 1) := by decide +kernel
theorem own_ro0_d1 : decode method_3_code 1 = .ok (.ifCond .eq 11, 3) := by decide +kernel
theorem own_ro0_d12 : decode method_3_code 12 = .ok (.aload_n 0, 1) := by decide +kernel
theorem own_ro0_d13 : decode method_3_code 13 = .ok (.invokevirtual 31, 3) := by decide +kernel
theorem own_ro0_d16 : decode method_3_code 16 = .ok (.return_, 1) := by decide +kernel
theorem own_ro0_pn : plainName "com/example/honeybee/honeybee/device/DerReaderAtEndPinLaw" = true := by first | (simp [plainName, overriddenIn]; done) | decide +kernel
theorem own_ro0_ef (m : MethodId) (th : Addr) : entryFrame m #[(.ref th), (.int (0 : Int32))] 2 = mkF m 0 #[rv th, iv (0 : Int32)] [] := by first | (simp [entryFrame, mkF, argsToLocals, Value.category]; done) | rfl
def own_ro0_Q (Z : State) (th : Addr) (ba : Addr) (po en p2 b0 b1 : Int32) (Lb : List Value) (h0 : Heap) (n0 : Nat) (v : Option Value) (h : Heap) (L : List Loc) : Prop := v = none ∧ Fr n0 L ∧ Keep h0 h [th] ∧ Exa Z h th "com/example/honeybee/honeybee/device/DerReader" ∧ Fld Z h th "com/example/honeybee/honeybee/device/DerReader" "bytes" "[B" (.ref ba) ∧ Fld Z h th "com/example/honeybee/honeybee/device/DerReader" "position" "I" (.int p2) ∧ Fld Z h th "com/example/honeybee/honeybee/device/DerReader" "end" "I" (.int en)
set_option maxRecDepth 65536 in
set_option maxHeartbeats 40000000 in
theorem own_ro0 (l : Launch) (Z : State) (a0 : Array Value) (hw : ∀ d ∈ tables_1, d.before a0 Z = true) (ws : List Jvm.Cond) (th : Addr) (ba : Addr) (po en p2 b0 b1 : Int32) (Lb : List Value) (h0 : Heap) (n0 : Nat) (Z0 : n0 ≤ h0.size) (E0 : Exa Z h0 th "com/example/honeybee/honeybee/device/DerReader") (g0 : n0 ≤ th) (F9000 : Fld Z h0 th "com/example/honeybee/honeybee/device/DerReader" "bytes" "[B" (.ref ba)) (F9001 : Fld Z h0 th "com/example/honeybee/honeybee/device/DerReader" "position" "I" (.int po)) (F9002 : Fld Z h0 th "com/example/honeybee/honeybee/device/DerReader" "end" "I" (.int en)) (V0 : own_Ar Z h0 ba .byte Lb) (q0 : ¬ po < 0) (q0b : ¬ (po + (1 : Int32)) < 0) (q1 : ¬ (en - po) < (2 : Int32)) (hv1 : Lb[po.toNatClampNeg]? = some (.int b0)) (q2 : (b0 &&& (255 : Int32)) = (5 : Int32)) (hv2 : Lb[(po + (1 : Int32)).toNatClampNeg]? = some (.int b1)) (q3 : (b1 &&& (255 : Int32)) = (0 : Int32)) (q4 : (0 : Int32) < (128 : Int32)) (hp2 : po + (2 : Int32) = p2) (q5 : ¬ (en - p2) < (0 : Int32)) :
    MetFree l own_y19 (head1 (Jvm.Cond.code own_y19 method_3_code 2 none :: ws) ({ frames := 2, cells := 2, slots := 20, locals := 32 } : Room)) (fun a U => a = #[(.ref th), (.int (0 : Int32))] ∧ Z.Warmed39 U.vm ∧ U.heap = h0) (fun _ _ _ _ _ => True) (fun _ U o U' => ∃ v L, o = .returned v ∧ (own_ro0_Q Z th ba po en p2 b0 b1 Lb h0 n0) v U'.heap L ∧ ReturnedEndW U o U' L ({ frames := 2, cells := 2, slots := 20, locals := 32 } : Room).cells ({ frames := 2, cells := 2, slots := 20, locals := 32 } : Room).slots) := by
  refine MetFree.of_bodySF (plainFor_of_name own_ro0_pn) hisR ?_
  intro p e s m args below meth c s₁ Bd hml0 hP hK
  obtain ⟨rfl, hZ, hh⟩ := hP
  have hx := Bd.exec
  have hby := Bd.bytes
  have hml : c.maxLocals = 2 := hml0
  have hown : s.vm.findClass "com/example/honeybee/honeybee/device/DerReaderAtEndPinLaw" = some m.cls := findClass_of_methodNamed Bd.named
  have hnm := (name_of_methodNamed Bd.named Bd.method).1
  have hlk : meth.locks = false := Bd.notSynchronized
  have X0 : Stand p l e ({ frames := 2, cells := 2, slots := 20, locals := 32 } : Room) (s.setVm s.vm) m #[(.ref th), (.int (0 : Int32))] below meth c s₁ [] 0 0 := Stand.of_body Bd
  have hS0 : s.Since s.vm 0 := own_since0 s 0
  have hk0 : 0 ≤ h0.size := Nat.zero_le _
  have hws := own_hws hw
  have e0 : s₁.heap = h0 := by rw [← hh, Bd.state]; rfl
  have N0 := Fr.nil n0
  have w_3 := hw _ (List.mem_of_getElem? (l := tables_1) (i := 3) rfl)
  have w_4 := hw _ (List.mem_of_getElem? (l := tables_1) (i := 4) rfl)
  have w_104 := hw _ (List.mem_of_getElem? (l := tables_1) (i := 104) rfl)
  have w_105 := hw _ (List.mem_of_getElem? (l := tables_1) (i := 105) rfl)
  have w_106 := hw _ (List.mem_of_getElem? (l := tables_1) (i := 106) rfl)
  have w_107 := hw _ (List.mem_of_getElem? (l := tables_1) (i := 107) rfl)
  have w_108 := hw _ (List.mem_of_getElem? (l := tables_1) (i := 108) rfl)
  show own_G p.tables e below (fun o U' => ∃ v L, o = .returned v ∧ (own_ro0_Q Z th ba po en p2 b0 b1 Lb h0 n0) v U'.heap L ∧ ReturnedEndW s o U' L ({ frames := 2, cells := 2, slots := 20, locals := 32 } : Room).cells ({ frames := 2, cells := 2, slots := 20, locals := 32 } : Room).slots) (s₁.setTop (entryFrame m #[(.ref th), (.int (0 : Int32))] 2))
  refine own_go (B := s₁.setTop (mkF m 0 #[rv th, iv (0 : Int32)] [])) (fun t k => castTop (own_ro0_ef m th) k) ?_
  have K0 := Keep.refl h0 [th]
  have nba := own_Ar_ne E0 w_3 V0
  refine own_go (B := (s₁.setTop (mkF m 1 #[rv th, iv (0 : Int32)] [(.int (0 : Int32))]))) (fun t k => XS.iloadN X0.here hx rfl (hb hby own_ro0_d0) rfl k) ?_
  have hc1 : (0 : Int32) = (0 : Int32) := (by decide)
  refine own_ifY X0 hx (hb hby own_ro0_d1) (pc' := 12) (by decide) (by decide) hc1 ?_
  refine own_go (B := (s₁.setTop (mkF m 13 #[rv th, iv (0 : Int32)] [(.ref th)]))) (fun t k => XS.aloadN X0.here hx rfl (hb hby own_ro0_d12) rfl rfl k) ?_
  obtain ⟨cq1, kq1, qa1, qb1, qc1⟩ := isOf hZ e0 E0
  obtain ⟨_, _, ⟨T1, L1, k1, n1⟩, -, X1, hs1, hg1, ⟨Lc1, hQ1, l1, yy1, zz1⟩, st1⟩ := X0.virtualBackS hx (y := own_y15) (z := own_y15) hown (mvT hZ w_104) (mvT hZ w_105) (notFace_of_selects (args := #[]) (mvT hZ w_107)) (mvT hZ w_107) (mvT hZ w_106) (by decide) (backOfS (W := 0) (own_nv l Z a0 hw [] th ba po en p2 b0 b1 Lb h0 n0 Z0 E0 g0 F9000 F9001 F9002 V0 q0 q0b q1 hv1 q2 hv2 q3 q4 hp2 q5) hZ w_108 w_4 (by decide) (by decide)) qa1 qc1 (g := (mkF m 13 #[rv th, iv (0 : Int32)] [(.ref th)])) rfl (by rw [hml]; rfl) (Steps.refl _) (argsL := []) (rest := []) (lenOf own_pd4 rfl) rfl (by show 2 * 0 + _ ≤ _; exact own_b rfl) (hb hby own_ro0_d13) (fun _ _ => ⟨rfl, e0, (own_b rfl : 0 + 2 ≤ _), (own_b rfl : 0 + 20 ≤ _)⟩)
  dsimp only [Pt.U, Pt.locs, Pt.cells, Pt.slots] at X1 l1 yy1 zz1 st1 hQ1 hs1 hg1
  obtain ⟨rfl, Nq1, K1, Ex1, gb1, gp1, ge1⟩ := hQ1
  obtain ⟨L1, X1, N1⟩ := own_absC (K := 2) (K' := 20) X1 l1 yy1 zz1 N0 Nq1
  have X1 : Stand p l e ({ frames := 2, cells := 2, slots := 20, locals := 32 } : Room) (s.setVm T1.vm) m #[(.ref th), (.int (0 : Int32))] below meth c T1 L1 2 20 := X1
  have hS1 := foldS hS0 (T := s₁) (by rw [e0]; exact hk0) hs1 hg1
  have hZ1 : Z.Warmed39 (s.setVm T1.vm).vm := State.Warmed39.trans (t := s.setVm s.vm) hZ hs1.1
  have ho1 : (s.setVm T1.vm).vm.findClass "com/example/honeybee/honeybee/device/DerReaderAtEndPinLaw" = some m.cls := by rw [show (s.setVm T1.vm).vm = T1.vm from rfl, hs1.1.alike.findClass]; exact hown
  have F2 : n0 ≤ T1.heap.size := Nat.le_trans Z0 K1.1
  have F3 := Exa.keep E0 K1
  have F4 := Keep.trans K0 K1 (allS (Or.inl (List.mem_of_getElem? (i := 0) rfl)) all0)
  have F8 := own_Ar_keep V0 K1 (ninS (Ne.symm nba) nin0)
  have hk1 : T1.heap.size ≤ T1.heap.size := Nat.le_refl _
  refine own_tr (B := (T1.setTop (mkF m 16 #[rv th, iv (0 : Int32)] []))) st1 ?_
  exact own_retWV X1 hx hlk hS1 hk1 Bd.returns (hb hby own_ro0_d16) (own_b rfl) (own_b rfl) (Q := (own_ro0_Q Z th ba po en p2 b0 b1 Lb h0 n0)) ⟨rfl, N1, F4, Ex1, gb1, gp1, ge1⟩

theorem own_sq_d0 : decode prog_1_method_3_code 0 = .ok (.aload_n 0, 1) := by decide +kernel
theorem own_sq_d1 : decode prog_1_method_3_code 1 = .ok (.bipush 48, 2) := by decide +kernel
theorem own_sq_d3 : decode prog_1_method_3_code 3 = .ok (.ldc 23, 2) := by decide +kernel
theorem own_sq_d5 : decode prog_1_method_3_code 5 = .ok (.invokevirtual 25, 3) := by decide +kernel
theorem own_sq_d8 : decode prog_1_method_3_code 8 = .ok (.istore_n 1, 1) := by decide +kernel
theorem own_sq_d9 : decode prog_1_method_3_code 9 = .ok (.new 2, 3) := by decide +kernel
theorem own_sq_d12 : decode prog_1_method_3_code 12 = .ok (.dup, 1) := by decide +kernel
theorem own_sq_d13 : decode prog_1_method_3_code 13 = .ok (.aload_n 0, 1) := by decide +kernel
theorem own_sq_d14 : decode prog_1_method_3_code 14 = .ok (.getfield 12, 3) := by decide +kernel
theorem own_sq_d17 : decode prog_1_method_3_code 17 = .ok (.aload_n 0, 1) := by decide +kernel
theorem own_sq_d18 : decode prog_1_method_3_code 18 = .ok (.getfield 16, 3) := by decide +kernel
theorem own_sq_d21 : decode prog_1_method_3_code 21 = .ok (.aload_n 0, 1) := by decide +kernel
theorem own_sq_d22 : decode prog_1_method_3_code 22 = .ok (.getfield 16, 3) := by decide +kernel
theorem own_sq_d25 : decode prog_1_method_3_code 25 = .ok (.iload_n 1, 1) := by decide +kernel
theorem own_sq_d26 : decode prog_1_method_3_code 26 = .ok (.iadd, 1) := by decide +kernel
theorem own_sq_d27 : decode prog_1_method_3_code 27 = .ok (.invokespecial 1, 3) := by decide +kernel
theorem own_sq_d30 : decode prog_1_method_3_code 30 = .ok (.astore_n 2, 1) := by decide +kernel
theorem own_sq_d31 : decode prog_1_method_3_code 31 = .ok (.aload_n 0, 1) := by decide +kernel
theorem own_sq_d32 : decode prog_1_method_3_code 32 = .ok (.dup, 1) := by decide +kernel
theorem own_sq_d33 : decode prog_1_method_3_code 33 = .ok (.getfield 16, 3) := by decide +kernel
theorem own_sq_d36 : decode prog_1_method_3_code 36 = .ok (.iload_n 1, 1) := by decide +kernel
theorem own_sq_d37 : decode prog_1_method_3_code 37 = .ok (.iadd, 1) := by decide +kernel
theorem own_sq_d38 : decode prog_1_method_3_code 38 = .ok (.putfield 16, 3) := by decide +kernel
theorem own_sq_d41 : decode prog_1_method_3_code 41 = .ok (.aload_n 2, 1) := by decide +kernel
theorem own_sq_d42 : decode prog_1_method_3_code 42 = .ok (.areturn, 1) := by decide +kernel
theorem own_sq_pn : plainName "com/example/honeybee/honeybee/device/DerReader" = true := by first | (simp [plainName, overriddenIn]; done) | decide +kernel
theorem own_sq_ef (m : MethodId) (th : Addr) : entryFrame m #[(.ref th)] 3 = mkF m 0 #[rv th, .unset, .unset] [] := by first | (simp [entryFrame, mkF, argsToLocals, Value.category]; done) | rfl
def own_sq_Q (Z : State) (th : Addr) (ba : Addr) (ln pe : Int32) (Lb : List Value) (h0 : Heap) (n0 : Nat) (v : Option Value) (h : Heap) (L : List Loc) : Prop := ∃ b, v = some (.ref b) ∧ Fr n0 L ∧ Keep h0 h [th] ∧ h0.size ≤ b ∧ Exa Z h th "com/example/honeybee/honeybee/device/DerReader" ∧ Fld Z h th "com/example/honeybee/honeybee/device/DerReader" "bytes" "[B" (.ref ba) ∧ Fld Z h th "com/example/honeybee/honeybee/device/DerReader" "position" "I" (.int pe) ∧ Fld Z h th "com/example/honeybee/honeybee/device/DerReader" "end" "I" (.int (8 : Int32)) ∧ Exa Z h b "com/example/honeybee/honeybee/device/DerReader" ∧ Fld Z h b "com/example/honeybee/honeybee/device/DerReader" "bytes" "[B" (.ref ba) ∧ Fld Z h b "com/example/honeybee/honeybee/device/DerReader" "position" "I" (.int (2 : Int32)) ∧ Fld Z h b "com/example/honeybee/honeybee/device/DerReader" "end" "I" (.int pe)
set_option maxRecDepth 65536 in
set_option maxHeartbeats 40000000 in
theorem own_sq (l : Launch) (Z : State) (a0 : Array Value) (hw : ∀ d ∈ tables_1, d.before a0 Z = true) (ws : List Jvm.Cond) (th : Addr) (ba : Addr) (ln pe : Int32) (Lb : List Value) (h0 : Heap) (n0 : Nat) (Z0 : n0 ≤ h0.size) (E0 : Exa Z h0 th "com/example/honeybee/honeybee/device/DerReader") (g0 : n0 ≤ th) (F9000 : Fld Z h0 th "com/example/honeybee/honeybee/device/DerReader" "bytes" "[B" (.ref ba)) (F9001 : Fld Z h0 th "com/example/honeybee/honeybee/device/DerReader" "position" "I" (.int (0 : Int32))) (F9002 : Fld Z h0 th "com/example/honeybee/honeybee/device/DerReader" "end" "I" (.int (8 : Int32))) (V0 : own_Ar Z h0 ba .byte Lb) (q0 : ¬ (0 : Int32) < 0) (q0b : ¬ ((0 : Int32) + (1 : Int32)) < 0) (q1 : ¬ ((8 : Int32) - (0 : Int32)) < (2 : Int32)) (hv1 : Lb[(0 : Int32).toNatClampNeg]? = some (.int (48 : Int32))) (q2 : ((48 : Int32) &&& (255 : Int32)) = (48 : Int32)) (hv2 : Lb[((0 : Int32) + (1 : Int32)).toNatClampNeg]? = some (.int ln)) (q3 : (ln &&& (255 : Int32)) = ln) (q4 : ln < (128 : Int32)) (hp2 : (0 : Int32) + (2 : Int32) = (2 : Int32)) (q5 : ¬ ((8 : Int32) - (2 : Int32)) < ln) (hpe : (2 : Int32) + ln = pe) :
    MetFree l own_y18 (head1 (Jvm.Cond.code own_y18 prog_1_method_3_code 3 (some (.object "com/example/honeybee/honeybee/device/DerReader")) :: ws) ({ frames := 2, cells := 3, slots := 39, locals := 28 } : Room)) (fun a U => a = #[(.ref th)] ∧ Z.Warmed39 U.vm ∧ U.heap = h0) (fun _ _ _ _ _ => True) (fun _ U o U' => ∃ v L, o = .returned v ∧ (own_sq_Q Z th ba ln pe Lb h0 n0) v U'.heap L ∧ ReturnedEndW U o U' L ({ frames := 2, cells := 3, slots := 39, locals := 28 } : Room).cells ({ frames := 2, cells := 3, slots := 39, locals := 28 } : Room).slots) := by
  refine MetFree.of_bodySF (plainFor_of_name own_sq_pn) hisR ?_
  intro p e s m args below meth c s₁ Bd hml0 hP hK
  obtain ⟨rfl, hZ, hh⟩ := hP
  have hx := Bd.exec
  have hby := Bd.bytes
  have hml : c.maxLocals = 3 := hml0
  have hown : s.vm.findClass "com/example/honeybee/honeybee/device/DerReader" = some m.cls := findClass_of_methodNamed Bd.named
  have hnm := (name_of_methodNamed Bd.named Bd.method).1
  have hlk : meth.locks = false := Bd.notSynchronized
  have X0 : Stand p l e ({ frames := 2, cells := 3, slots := 39, locals := 28 } : Room) (s.setVm s.vm) m #[(.ref th)] below meth c s₁ [] 0 0 := Stand.of_body Bd
  have hS0 : s.Since s.vm 0 := own_since0 s 0
  have hk0 : 0 ≤ h0.size := Nat.zero_le _
  have hws := own_hws hw
  have e0 : s₁.heap = h0 := by rw [← hh, Bd.state]; rfl
  have N0 := Fr.nil n0
  have w_3 := hw _ (List.mem_of_getElem? (l := tables_1) (i := 3) rfl)
  have w_4 := hw _ (List.mem_of_getElem? (l := tables_1) (i := 4) rfl)
  have w_8 := hw _ (List.mem_of_getElem? (l := tables_1) (i := 8) rfl)
  have w_9 := hw _ (List.mem_of_getElem? (l := tables_1) (i := 9) rfl)
  have w_10 := hw _ (List.mem_of_getElem? (l := tables_1) (i := 10) rfl)
  have w_14 := hw _ (List.mem_of_getElem? (l := tables_1) (i := 14) rfl)
  have w_15 := hw _ (List.mem_of_getElem? (l := tables_1) (i := 15) rfl)
  have w_16 := hw _ (List.mem_of_getElem? (l := tables_1) (i := 16) rfl)
  have w_17 := hw _ (List.mem_of_getElem? (l := tables_1) (i := 17) rfl)
  have w_19 := hw _ (List.mem_of_getElem? (l := tables_1) (i := 19) rfl)
  have w_30 := hw _ (List.mem_of_getElem? (l := tables_1) (i := 30) rfl)
  have w_37 := hw _ (List.mem_of_getElem? (l := tables_1) (i := 37) rfl)
  have w_38 := hw _ (List.mem_of_getElem? (l := tables_1) (i := 38) rfl)
  have w_39 := hw _ (List.mem_of_getElem? (l := tables_1) (i := 39) rfl)
  have w_40 := hw _ (List.mem_of_getElem? (l := tables_1) (i := 40) rfl)
  have w_41 := hw _ (List.mem_of_getElem? (l := tables_1) (i := 41) rfl)
  show own_G p.tables e below (fun o U' => ∃ v L, o = .returned v ∧ (own_sq_Q Z th ba ln pe Lb h0 n0) v U'.heap L ∧ ReturnedEndW s o U' L ({ frames := 2, cells := 3, slots := 39, locals := 28 } : Room).cells ({ frames := 2, cells := 3, slots := 39, locals := 28 } : Room).slots) (s₁.setTop (entryFrame m #[(.ref th)] 3))
  refine own_go (B := s₁.setTop (mkF m 0 #[rv th, .unset, .unset] [])) (fun t k => castTop (own_sq_ef m th) k) ?_
  have K0 := Keep.refl h0 [th]
  have nba := own_Ar_ne E0 w_3 V0
  refine own_go (B := (s₁.setTop (mkF m 1 #[rv th, .unset, .unset] [(.ref th)]))) (fun t k => XS.aloadN X0.here hx rfl (hb hby own_sq_d0) rfl rfl k) ?_
  refine own_go (B := (s₁.setTop (mkF m 3 #[rv th, .unset, .unset] [(.int (48 : Int32)), (.ref th)]))) (fun t k => own_bipush (v := (48 : Int32)) X0.here hx rfl (hb hby own_sq_d1) (by decide) k) ?_
  obtain ⟨a1, T1, h1, k1, X1, e1, E1, hS1, hk1, hZ1, ho1, st1⟩ := ldcS (s := s) (vm0 := s.vm) X0 hx hZ hown w_30 hws e0 hS0 hk0 (g := (mkF m 3 #[rv th, .unset, .unset] [(.int (48 : Int32)), (.ref th)])) rfl (hb hby own_sq_d3) (n := 32) (by decide) (by decide) (own_b rfl) (own_b rfl)
  refine own_go (B := (T1.setTop (mkF m 5 #[rv th, .unset, .unset] [(.ref a1), (.int (48 : Int32)), (.ref th)]))) st1 ?_
  have Z2 : n0 ≤ h1.size := Nat.le_trans Z0 E1.1
  have F3 := Exa.ext E1 E0
  have K4 := Keep.ext K0 E1
  have F5 := Fld.ext E1 F9000
  have F6 := Fld.ext E1 F9001
  have F7 := Fld.ext E1 F9002
  have V8 := own_Ar_ext V0 E1
  obtain ⟨pc9, pq9, pr9⟩ := Exa.cell F3
  obtain ⟨_, _, ⟨T9, L9, k9, n9⟩, -, X9, ⟨Lc9, hQ9, l9, yy9, zz9⟩, st9⟩ := X1.privateBack hx (y := own_y2) ho1 (mvT hZ1 w_37) (mvT hZ1 w_38) (own_selp hZ1 w_3 w_39 w_38 (by decide)) (Cond.privateMethod_at (mvP hZ1 w_39 (args := #[]))) (mvT hZ1 w_40) (by decide) (backOf (W := 0) (own_hd l Z a0 hw [] th (48 : Int32) a1 ba (0 : Int32) (8 : Int32) (2 : Int32) (48 : Int32) ln ln Lb h1 n0 Z2 F3 g0 F5 F6 F7 V8 q0 q0b q1 hv1 q2 hv2 q3 q4 hp2 q5) hZ1 w_40 w_4 (by decide) (by decide)) (g := (mkF m 5 #[rv th, .unset, .unset] [(.ref a1), (.int (48 : Int32)), (.ref th)])) rfl (by rw [hml]; rfl) (Steps.refl _) (a := th) (by rw [e1]; exact pq9) pr9 (argsL := [(.int (48 : Int32)), (.ref a1)]) (rest := []) (lenOf own_pd2 rfl) rfl (by show 2 * 0 + _ ≤ _; exact own_b rfl) (hb hby own_sq_d5) (fun _ _ => ⟨rfl, e1, (own_b rfl : 2 + 0 ≤ _), (own_b rfl : 36 + 0 ≤ _)⟩)
  dsimp only [Pt.U, Pt.locs, Pt.cells, Pt.slots] at X9 l9 yy9 zz9 st9 hQ9
  obtain ⟨rfl, Nq9, K9, Ex9, gb9, gp9, ge9⟩ := hQ9
  obtain ⟨L9, X9, N9⟩ := own_absC (K := 2) (K' := 36) X9 l9 yy9 zz9 N0 Nq9
  have F10 : n0 ≤ T9.heap.size := Nat.le_trans Z2 K9.1
  have F11 := Exa.keep F3 K9
  have F12 := Keep.trans K4 K9 (allS (Or.inl (List.mem_of_getElem? (i := 0) rfl)) all0)
  have F16 := own_Ar_keep V8 K9 (ninS (Ne.symm nba) nin0)
  have F17 : k1 ≤ T9.heap.size := Nat.le_trans hk1 K9.1
  refine own_tr (B := (T9.setTop (mkF m 8 #[rv th, .unset, .unset] [(.int ln)]))) st9 ?_
  refine own_go (B := (T9.setTop (mkF m 9 #[rv th, iv ln, .unset] []))) (fun t k => XS.istoreN X9.here hx rfl (hb hby own_sq_d8) rfl (l' := #[rv th, iv ln, .unset]) rfl k) ?_
  obtain ⟨T18, h18, X18, e18, E18, A18, D18, U18, st18⟩ := newO X9 hx hZ1 ho1 w_41 w_3 w_4 rfl (g := (mkF m 9 #[rv th, iv ln, .unset] [])) rfl (hb hby own_sq_d9) (own_b rfl) (own_b rfl)
  obtain ⟨a18, ga18⟩ : ∃ z, z = T9.heap.size := ⟨_, rfl⟩
  rw [← ga18] at A18 D18 U18 st18
  refine own_go (B := (T18.setTop (mkF m 12 #[rv th, iv ln, .unset] [(.ref a18)]))) st18 ?_
  have Z19 : n0 ≤ h18.size := Nat.le_trans F10 E18.1
  have F20 := Exa.ext E18 Ex9
  have K21 := Keep.ext F12 E18
  have V22 := own_Ar_ext F16 E18
  have Z23 : k1 ≤ h18.size := Nat.le_trans F17 E18.1
  have F24 := Fld.ext E18 gb9
  have F25 := Fld.ext E18 gp9
  have F26 := Fld.ext E18 ge9
  have gn18 : n0 ≤ a18 := Nat.le_trans F10 (Nat.le_of_eq ga18.symm)
  have ne18_th : a18 ≠ th := fun q => absurd (Ex9.lt) (by rw [← q, ga18]; exact Nat.lt_irrefl _)
  have ne18_ba : a18 ≠ ba := fun q => absurd (own_Ar_lt F16) (by rw [← q, ga18]; exact Nat.lt_irrefl _)
  have F27 : Fld Z h18 a18 "com/example/honeybee/honeybee/device/DerReader" "bytes" "[B" .null := D18 (Or.inr w_15) (ty := (.array .byte)) (by decide)
  have F28 : Fld Z h18 a18 "com/example/honeybee/honeybee/device/DerReader" "position" "I" (.int (0 : Int32)) := D18 (Or.inl w_17) (ty := .int) (by decide)
  have F29 : Fld Z h18 a18 "com/example/honeybee/honeybee/device/DerReader" "end" "I" (.int (0 : Int32)) := D18 (Or.inr w_19) (ty := .int) (by decide)
  refine own_go (B := (T18.setTop (mkF m 13 #[rv th, iv ln, .unset] [(.ref a18), (.ref a18)]))) (fun t k => XS.dup X18.here hx rfl (hb hby own_sq_d12) rfl rfl k) ?_
  refine own_go (B := (T18.setTop (mkF m 14 #[rv th, iv ln, .unset] [(.ref th), (.ref a18), (.ref a18)]))) (fun t k => XS.aloadN X18.here hx rfl (hb hby own_sq_d13) rfl rfl k) ?_
  obtain ⟨T30, X30, e30, st30⟩ := getF X18 hx hZ1 ho1 (host := "") (Or.inl w_14) Via.refl e18 F24 (g := (mkF m 14 #[rv th, iv ln, .unset] [(.ref th), (.ref a18), (.ref a18)])) rfl rfl (hb hby own_sq_d14)
  refine own_go (B := (T30.setTop (mkF m 17 #[rv th, iv ln, .unset] [(.ref ba), (.ref a18), (.ref a18)]))) st30 ?_
  refine own_go (B := (T30.setTop (mkF m 18 #[rv th, iv ln, .unset] [(.ref th), (.ref ba), (.ref a18), (.ref a18)]))) (fun t k => XS.aloadN X30.here hx rfl (hb hby own_sq_d17) rfl rfl k) ?_
  obtain ⟨T31, X31, e31, st31⟩ := getF X30 hx hZ1 ho1 (host := "") (Or.inl w_16) Via.refl e30 F25 (g := (mkF m 18 #[rv th, iv ln, .unset] [(.ref th), (.ref ba), (.ref a18), (.ref a18)])) rfl rfl (hb hby own_sq_d18)
  refine own_go (B := (T31.setTop (mkF m 21 #[rv th, iv ln, .unset] [(.int (2 : Int32)), (.ref ba), (.ref a18), (.ref a18)]))) st31 ?_
  refine own_go (B := (T31.setTop (mkF m 22 #[rv th, iv ln, .unset] [(.ref th), (.int (2 : Int32)), (.ref ba), (.ref a18), (.ref a18)]))) (fun t k => XS.aloadN X31.here hx rfl (hb hby own_sq_d21) rfl rfl k) ?_
  obtain ⟨T32, X32, e32, st32⟩ := getF X31 hx hZ1 ho1 (host := "") (Or.inl w_16) Via.refl e31 F25 (g := (mkF m 22 #[rv th, iv ln, .unset] [(.ref th), (.int (2 : Int32)), (.ref ba), (.ref a18), (.ref a18)])) rfl rfl (hb hby own_sq_d22)
  refine own_go (B := (T32.setTop (mkF m 25 #[rv th, iv ln, .unset] [(.int (2 : Int32)), (.int (2 : Int32)), (.ref ba), (.ref a18), (.ref a18)]))) st32 ?_
  refine own_go (B := (T32.setTop (mkF m 26 #[rv th, iv ln, .unset] [(.int ln), (.int (2 : Int32)), (.int (2 : Int32)), (.ref ba), (.ref a18), (.ref a18)]))) (fun t k => XS.iloadN X32.here hx rfl (hb hby own_sq_d25) rfl k) ?_
  refine own_go (B := (T32.setTop (mkF m 27 #[rv th, iv ln, .unset] [(.int ((2 : Int32) + ln)), (.int (2 : Int32)), (.ref ba), (.ref a18), (.ref a18)]))) (fun t k => XS.iadd (x := (2 : Int32)) (y := ln) X32.here hx rfl (hb hby own_sq_d26) rfl k) ?_
  rw [hpe]
  obtain ⟨_, _, ⟨T33, L33, k33, n33⟩, -, X33, ⟨Lc33, hQ33, l33, yy33, zz33⟩, st33⟩ := X32.specialBack hx (y := own_y1) rfl ho1 (mvT hZ1 w_8) (mvT hZ1 w_9) (mvT hZ1 w_10) (by decide) (backOf (W := 1) (own_ct3 l Z a0 hw [] a18 ba (2 : Int32) pe h18 n0 Z19 A18 gn18 F27 F28 F29) hZ1 w_10 w_4 (by decide) (by decide)) (g := (mkF m 27 #[rv th, iv ln, .unset] [(.int pe), (.int (2 : Int32)), (.ref ba), (.ref a18), (.ref a18)])) rfl (by rw [hml]; rfl) (Steps.refl _) (a := a18) (argsL := [(.ref ba), (.int (2 : Int32)), (.int pe)]) (rest := [(.ref a18)]) (lenOf own_pd1 rfl) rfl (by show 2 * 0 + _ ≤ _; exact own_b rfl) (hb hby own_sq_d27) (fun _ _ => ⟨rfl, e32, (own_b rfl : 3 + 0 ≤ _), (own_b rfl : 39 + 0 ≤ _)⟩)
  dsimp only [Pt.U, Pt.locs, Pt.cells, Pt.slots] at X33 l33 yy33 zz33 st33 hQ33
  obtain ⟨rfl, Nq33, K33, Ex33, g0_33, g1_33, g2_33⟩ := hQ33
  obtain ⟨L33, X33, N33⟩ := own_absC (K := 3) (K' := 39) X33 l33 yy33 zz33 N9 Nq33
  have F34 : n0 ≤ T33.heap.size := Nat.le_trans Z19 K33.1
  have F35 := Exa.keep F20 K33
  have F36 := Keep.trans K21 K33 (allS (Or.inr (Nat.le_trans F12.1 (Nat.le_of_eq ga18.symm))) all0)
  have F37 := own_Ar_keep V22 K33 (ninS (Ne.symm ne18_ba) nin0)
  have F38 : k1 ≤ T33.heap.size := Nat.le_trans Z23 K33.1
  have F39 := Fld.keep F24 K33 (ninS (Ne.symm ne18_th) nin0)
  have F40 := Fld.keep F25 K33 (ninS (Ne.symm ne18_th) nin0)
  have F41 := Fld.keep F26 K33 (ninS (Ne.symm ne18_th) nin0)
  have F42 := Exa.keep A18 K33
  refine own_tr (B := (T33.setTop (mkF m 30 #[rv th, iv ln, .unset] [(.ref a18)]))) st33 ?_
  refine own_go (B := (T33.setTop (mkF m 31 #[rv th, iv ln, rv a18] []))) (fun t k => XS.astoreN X33.here hx rfl (hb hby own_sq_d30) rfl rfl (l' := #[rv th, iv ln, rv a18]) rfl k) ?_
  refine own_go (B := (T33.setTop (mkF m 32 #[rv th, iv ln, rv a18] [(.ref th)]))) (fun t k => XS.aloadN X33.here hx rfl (hb hby own_sq_d31) rfl rfl k) ?_
  refine own_go (B := (T33.setTop (mkF m 33 #[rv th, iv ln, rv a18] [(.ref th), (.ref th)]))) (fun t k => XS.dup X33.here hx rfl (hb hby own_sq_d32) rfl rfl k) ?_
  obtain ⟨T46, X46, e46, st46⟩ := getF X33 hx hZ1 ho1 (host := "") (Or.inl w_16) Via.refl rfl F40 (g := (mkF m 33 #[rv th, iv ln, rv a18] [(.ref th), (.ref th)])) rfl rfl (hb hby own_sq_d33)
  refine own_go (B := (T46.setTop (mkF m 36 #[rv th, iv ln, rv a18] [(.int (2 : Int32)), (.ref th)]))) st46 ?_
  refine own_go (B := (T46.setTop (mkF m 37 #[rv th, iv ln, rv a18] [(.int ln), (.int (2 : Int32)), (.ref th)]))) (fun t k => XS.iloadN X46.here hx rfl (hb hby own_sq_d36) rfl k) ?_
  refine own_go (B := (T46.setTop (mkF m 38 #[rv th, iv ln, rv a18] [(.int ((2 : Int32) + ln)), (.ref th)]))) (fun t k => XS.iadd (x := (2 : Int32)) (y := ln) X46.here hx rfl (hb hby own_sq_d37) rfl k) ?_
  rw [hpe]
  obtain ⟨T47, h47, X47, e47, W47, st47⟩ := putF X46 hx hZ1 ho1 (host := "") (Or.inl w_16) Via.refl e46 F40 F35 (Or.inl w_17) w_3 (ty := .int) (by decide) rfl rfl (g := (mkF m 38 #[rv th, iv ln, rv a18] [(.int pe), (.ref th)])) rfl rfl (hb hby own_sq_d38)
  refine own_go (B := (T47.setTop (mkF m 41 #[rv th, iv ln, rv a18] []))) st47 ?_
  obtain ⟨L47, X47, N47⟩ := own_abs X47 (Fr.snoc X47 N33 g0)
  have F48 : n0 ≤ h47.size := by rw [W47.size]; exact F34
  have F49 := Exa.wr W47 F35
  have F50 := Keep.wr F36 W47 (Or.inl (List.mem_of_getElem? (i := 0) rfl))
  have F51 := own_Ar_other F37 W47 (Ne.symm nba)
  have F52 : k1 ≤ h47.size := by rw [W47.size]; exact F38
  have F53 := Fld.other W47 F39 (Or.inr (slot_ne (t := (.array .byte)) (t' := .int) (Or.inr w_15) (Or.inl w_17) (by decide) (by decide) (by decide)))
  have F54 := Fld.same W47 F40
  have F55 := Fld.other W47 F41 (Or.inr (slot_ne (t := .int) (t' := .int) (Or.inr w_19) (Or.inl w_17) (by decide) (by decide) (by decide)))
  have F56 := Exa.wr W47 Ex33
  have F57 := Fld.other W47 g0_33 (Or.inl ne18_th)
  have F58 := Fld.other W47 g1_33 (Or.inl ne18_th)
  have F59 := Fld.other W47 g2_33 (Or.inl ne18_th)
  refine own_go (B := (T47.setTop (mkF m 42 #[rv th, iv ln, rv a18] [(.ref a18)]))) (fun t k => XS.aloadN X47.here hx rfl (hb hby own_sq_d41) rfl rfl k) ?_
  exact own_retWA X47 hx hlk hS1 (by rw [e47]; exact F52) Bd.returns rfl rfl (hb hby own_sq_d42) (own_b rfl) (own_b rfl) (Q := (own_sq_Q Z th ba ln pe Lb h0 n0)) (by rw [e47]; exact ⟨_, rfl, N47, F50, Nat.le_trans F12.1 (Nat.le_of_eq ga18.symm), F49, F53, F54, F55, F56, F57, F58, F59⟩)

theorem own_law_pn : plainName "com/example/honeybee/honeybee/device/DerReaderAtEndPinLaw" = true := by first | (simp [plainName, overriddenIn]; done) | decide +kernel
theorem own_law_ef (m : MethodId) (p0 : Int32) (p1 : Int32) : entryFrame m #[(.int p0), (.int p1)] maxLocals = mkF m 0 #[iv p0, iv p1, .unset, .unset, .unset, .unset, .unset, .unset, .unset, .unset] [] := by first | (simp [entryFrame, mkF, argsToLocals, Value.category, maxLocals]; done) | rfl
def own_law_Q (Z : State) (p0 : Int32) (p1 : Int32) (zz zm : Addr) (h0 : Heap) (n0 : Nat) (v : Option Value) (h : Heap) (L : List Loc) : Prop := v = some (.int 1) ∧ Fr n0 L
set_option maxRecDepth 65536 in
set_option maxHeartbeats 40000000 in
theorem own_law (l : Launch) (Z : State) (a0 : Array Value) (hw : ∀ d ∈ tables_1, d.before a0 Z = true) (ws : List Jvm.Cond) (p0 : Int32) (p1 : Int32) (zz zm : Addr) (h0 : Heap) (n0 : Nat) (Z0 : n0 ≤ h0.size) (hZS : Sta Z h0 "java/math/BigInteger" "ZERO" "Ljava/math/BigInteger;" (.ref zz)) (hZE : Exa Z h0 zz "java/math/BigInteger") (hZF : Fld Z h0 zz "java/math/BigInteger" "mag" "[I" (.ref zm)) (hZV : own_Ar Z h0 zm .int []) :
    MetFree l x (head1 (Jvm.Cond.code x code maxLocals ret :: ws) room_1) (fun a U => a = #[(.int p0), (.int p1)] ∧ Z.Warmed39 U.vm ∧ U.heap = h0) (fun _ _ _ _ _ => True) (fun _ U o U' => ∃ v L, o = .returned v ∧ (own_law_Q Z p0 p1 zz zm h0 n0) v U'.heap L ∧ ReturnedEndW U o U' L 32 3264) := by
  refine MetFree.of_bodySF (plainFor_of_name own_law_pn) hisR ?_
  intro p e s m args below meth c s₁ Bd hml0 hP hK
  obtain ⟨rfl, hZ, hh⟩ := hP
  have hx := Bd.exec
  have hby := Bd.bytes
  have hml : c.maxLocals = 10 := hml0
  have hown : s.vm.findClass "com/example/honeybee/honeybee/device/DerReaderAtEndPinLaw" = some m.cls := findClass_of_methodNamed Bd.named
  have hnm := (name_of_methodNamed Bd.named Bd.method).1
  have hlk : meth.locks = false := Bd.notSynchronized
  have X0 : Stand p l e room_1 (s.setVm s.vm) m #[(.int p0), (.int p1)] below meth c s₁ [] 0 0 := Stand.of_body Bd
  have hS0 : s.Since s.vm 0 := own_since0 s 0
  have hk0 : 0 ≤ h0.size := Nat.zero_le _
  have hws := own_hws hw
  have e0 : s₁.heap = h0 := by rw [← hh, Bd.state]; rfl
  have N0 := Fr.nil n0
  have w_0 := hw _ (List.mem_of_getElem? (l := tables_1) (i := 0) rfl)
  have w_1 := hw _ (List.mem_of_getElem? (l := tables_1) (i := 1) rfl)
  have w_2 := hw _ (List.mem_of_getElem? (l := tables_1) (i := 2) rfl)
  have w_3 := hw _ (List.mem_of_getElem? (l := tables_1) (i := 3) rfl)
  have w_4 := hw _ (List.mem_of_getElem? (l := tables_1) (i := 4) rfl)
  have w_5 := hw _ (List.mem_of_getElem? (l := tables_1) (i := 5) rfl)
  have w_6 := hw _ (List.mem_of_getElem? (l := tables_1) (i := 6) rfl)
  have w_7 := hw _ (List.mem_of_getElem? (l := tables_1) (i := 7) rfl)
  have w_15 := hw _ (List.mem_of_getElem? (l := tables_1) (i := 15) rfl)
  have w_17 := hw _ (List.mem_of_getElem? (l := tables_1) (i := 17) rfl)
  have w_19 := hw _ (List.mem_of_getElem? (l := tables_1) (i := 19) rfl)
  have w_20 := hw _ (List.mem_of_getElem? (l := tables_1) (i := 20) rfl)
  have w_21 := hw _ (List.mem_of_getElem? (l := tables_1) (i := 21) rfl)
  have w_22 := hw _ (List.mem_of_getElem? (l := tables_1) (i := 22) rfl)
  have w_23 := hw _ (List.mem_of_getElem? (l := tables_1) (i := 23) rfl)
  have w_24 := hw _ (List.mem_of_getElem? (l := tables_1) (i := 24) rfl)
  have w_25 := hw _ (List.mem_of_getElem? (l := tables_1) (i := 25) rfl)
  have w_26 := hw _ (List.mem_of_getElem? (l := tables_1) (i := 26) rfl)
  have w_27 := hw _ (List.mem_of_getElem? (l := tables_1) (i := 27) rfl)
  have w_28 := hw _ (List.mem_of_getElem? (l := tables_1) (i := 28) rfl)
  have w_29 := hw _ (List.mem_of_getElem? (l := tables_1) (i := 29) rfl)
  have w_42 := hw _ (List.mem_of_getElem? (l := tables_1) (i := 42) rfl)
  have w_43 := hw _ (List.mem_of_getElem? (l := tables_1) (i := 43) rfl)
  have w_44 := hw _ (List.mem_of_getElem? (l := tables_1) (i := 44) rfl)
  have w_45 := hw _ (List.mem_of_getElem? (l := tables_1) (i := 45) rfl)
  show own_G p.tables e below (fun o U' => ∃ v L, o = .returned v ∧ (own_law_Q Z p0 p1 zz zm h0 n0) v U'.heap L ∧ ReturnedEndW s o U' L 32 3264) (s₁.setTop (entryFrame m #[(.int p0), (.int p1)] maxLocals))
  refine own_go (B := s₁.setTop (mkF m 0 #[iv p0, iv p1, .unset, .unset, .unset, .unset, .unset, .unset, .unset, .unset] [])) (fun t k => castTop (own_law_ef m p0 p1) k) ?_
  have K0 := Keep.refl h0 []
  refine own_go (B := (s₁.setTop (mkF m 1 #[iv p0, iv p1, .unset, .unset, .unset, .unset, .unset, .unset, .unset, .unset] [(.int p0)]))) (fun t k => XS.iloadN X0.here hx rfl (hb hby at_0) rfl k) ?_
  have lc1 := X0.ldcInt hx hown (v := (2147483647 : Int32)) (mvT hZ w_0) (g := (mkF m 1 #[iv p0, iv p1, .unset, .unset, .unset, .unset, .unset, .unset, .unset, .unset] [(.int p0)])) rfl (hb hby at_1)
  refine own_go (B := (s₁.setTop (mkF m 3 #[iv p0, iv p1, .unset, .unset, .unset, .unset, .unset, .unset, .unset, .unset] [(.int (2147483647 : Int32)), (.int p0)]))) lc1 ?_
  refine own_go (B := (s₁.setTop (mkF m 4 #[iv p0, iv p1, .unset, .unset, .unset, .unset, .unset, .unset, .unset, .unset] [(.int (p0 &&& (2147483647 : Int32)))]))) (fun t k => XS.iand (x := p0) (y := (2147483647 : Int32)) X0.here hx rfl (hb hby at_3) rfl k) ?_
  refine own_go (B := (s₁.setTop (mkF m 6 #[iv p0, iv p1, .unset, .unset, .unset, .unset, .unset, .unset, .unset, .unset] [(.int (7 : Int32)), (.int (p0 &&& (2147483647 : Int32)))]))) (fun t k => own_bipush (v := (7 : Int32)) X0.here hx rfl (hb hby at_4) (by decide) k) ?_
  refine own_go (B := (s₁.setTop (mkF m 7 #[iv p0, iv p1, .unset, .unset, .unset, .unset, .unset, .unset, .unset, .unset] [(.int ((p0 &&& (2147483647 : Int32)) % (7 : Int32)))]))) (fun t k => iremM (x := (p0 &&& (2147483647 : Int32))) (y := (7 : Int32)) X0 hx rfl (hb hby at_6) rfl (by decide) k) ?_
  obtain ⟨z7, hz7⟩ : ∃ z : Int32, z = ((p0 &&& (2147483647 : Int32)) % (7 : Int32)) := ⟨_, rfl⟩
  rw [← hz7]
  refine own_go (B := (s₁.setTop (mkF m 8 #[iv p0, iv p1, iv z7, .unset, .unset, .unset, .unset, .unset, .unset, .unset] []))) (fun t k => XS.istoreN X0.here hx rfl (hb hby at_7) rfl (l' := #[iv p0, iv p1, iv z7, .unset, .unset, .unset, .unset, .unset, .unset, .unset]) rfl k) ?_
  have h7 := own_mod7 p0
  rw [← hz7] at h7
  have hn7 : z7.toInt8.toInt32 = z7 := own_b7 h7
  have hnr7 : nar .byte z7 = z7 := by have q := own_i2b z7; rw [hn7] at q; exact q
  have hf7 : fits .byte (.int z7) = true := by have q := fits_nar_byte z7; rw [hn7] at q; exact q
  have hq3 := own_q3 h7
  have hq4 := own_q4 h7
  have hq5 := own_q5 h7
  obtain ⟨pe, hpe⟩ : ∃ z : Int32, z = (2 : Int32) + z7 := ⟨_, rfl⟩
  refine own_go (B := (s₁.setTop (mkF m 9 #[iv p0, iv p1, iv z7, .unset, .unset, .unset, .unset, .unset, .unset, .unset] [(.int p1)]))) (fun t k => XS.iloadN X0.here hx rfl (hb hby at_8) rfl k) ?_
  refine own_go (B := (s₁.setTop (mkF m 10 #[iv p0, iv p1, iv z7, .unset, .unset, .unset, .unset, .unset, .unset, .unset] [(.int (1 : Int32)), (.int p1)]))) (fun t k => own_iconst (v := (1 : Int32)) X0.here hx rfl (hb hby at_9) (by decide) k) ?_
  refine own_go (B := (s₁.setTop (mkF m 11 #[iv p0, iv p1, iv z7, .unset, .unset, .unset, .unset, .unset, .unset, .unset] [(.int (p1 &&& (1 : Int32)))]))) (fun t k => XS.iand (x := p1) (y := (1 : Int32)) X0.here hx rfl (hb hby at_10) rfl k) ?_
  refine own_if X0 hx (hb hby at_11) (pc' := 18) (pn := 14) (by decide) (by decide) rfl (fun (hc11 : (p1 &&& (1 : Int32)) = (0 : Int32)) => ?_) (fun (hc11 : ¬ (p1 &&& (1 : Int32)) = (0 : Int32)) => ?_)
  · refine own_go (B := (s₁.setTop (mkF m 19 #[iv p0, iv p1, iv z7, .unset, .unset, .unset, .unset, .unset, .unset, .unset] [(.int (0 : Int32))]))) (fun t k => own_iconst (v := (0 : Int32)) X0.here hx rfl (hb hby at_18) (by decide) k) ?_
    refine own_go (B := (s₁.setTop (mkF m 20 #[iv p0, iv p1, iv z7, iv (0 : Int32), .unset, .unset, .unset, .unset, .unset, .unset] []))) (fun t k => XS.istoreN X0.here hx rfl (hb hby at_19) rfl (l' := #[iv p0, iv p1, iv z7, iv (0 : Int32), .unset, .unset, .unset, .unset, .unset, .unset]) rfl k) ?_
    refine own_go (B := (s₁.setTop (mkF m 21 #[iv p0, iv p1, iv z7, iv (0 : Int32), .unset, .unset, .unset, .unset, .unset, .unset] [(.int (0 : Int32))]))) (fun t k => XS.iloadN X0.here hx rfl (hb hby at_20) rfl k) ?_
    have hc21 : (0 : Int32) = (0 : Int32) := (by decide)
    refine own_ifY X0 hx (hb hby at_21) (pc' := 28) (by decide) (by decide) hc21 ?_
    refine own_go (B := (s₁.setTop (mkF m 29 #[iv p0, iv p1, iv z7, iv (0 : Int32), .unset, .unset, .unset, .unset, .unset, .unset] [(.int (2 : Int32))]))) (fun t k => own_iconst (v := (2 : Int32)) X0.here hx rfl (hb hby at_28) (by decide) k) ?_
    refine own_go (B := (s₁.setTop (mkF m 31 #[iv p0, iv p1, iv z7, iv (0 : Int32), iv (2 : Int32), .unset, .unset, .unset, .unset, .unset] []))) (fun t k => XS.istore X0.here hx rfl (hb hby at_29) rfl (l' := #[iv p0, iv p1, iv z7, iv (0 : Int32), iv (2 : Int32), .unset, .unset, .unset, .unset, .unset]) rfl k) ?_
    refine own_go (B := (s₁.setTop (mkF m 33 #[iv p0, iv p1, iv z7, iv (0 : Int32), iv (2 : Int32), .unset, .unset, .unset, .unset, .unset] [(.int (8 : Int32))]))) (fun t k => own_bipush (v := (8 : Int32)) X0.here hx rfl (hb hby at_31) (by decide) k) ?_
    obtain ⟨T2, h2, c2, X2, e2, E2, A2, st2⟩ := newP X0 hx hZ (aty := .byte) w_1 e0 (g := (mkF m 33 #[iv p0, iv p1, iv z7, iv (0 : Int32), iv (2 : Int32), .unset, .unset, .unset, .unset, .unset] [(.int (8 : Int32))])) rfl (hb hby at_33) rfl (by decide) (cap := 8) (by decide) (by decide) (own_b rfl) (own_b rfl)
    obtain ⟨a2, ga2⟩ : ∃ z, z = h0.size := ⟨_, rfl⟩
    rw [← ga2] at A2 st2
    refine own_go (B := (T2.setTop (mkF m 35 #[iv p0, iv p1, iv z7, iv (0 : Int32), iv (2 : Int32), .unset, .unset, .unset, .unset, .unset] [(.ref a2)]))) st2 ?_
    have Z3 : 0 ≤ h2.size := Nat.le_trans hk0 E2.1
    have Z4 : n0 ≤ h2.size := Nat.le_trans Z0 E2.1
    have K5 := Keep.ext K0 E2
    have gn2 : n0 ≤ a2 := Nat.le_trans Z0 (Nat.le_of_eq ga2.symm)
    have V2 : own_Ar Z h2 a2 .byte [(.int (0 : Int32)), (.int (0 : Int32)), (.int (0 : Int32)), (.int (0 : Int32)), (.int (0 : Int32)), (.int (0 : Int32)), (.int (0 : Int32)), (.int (0 : Int32))] := own_Ar_new A2 (N := 8) (by decide) rfl
    refine own_go (B := (T2.setTop (mkF m 37 #[iv p0, iv p1, iv z7, iv (0 : Int32), iv (2 : Int32), rv a2, .unset, .unset, .unset, .unset] []))) (fun t k => XS.astore X2.here hx rfl (hb hby at_35) rfl rfl (l' := #[iv p0, iv p1, iv z7, iv (0 : Int32), iv (2 : Int32), rv a2, .unset, .unset, .unset, .unset]) rfl k) ?_
    refine own_go (B := (T2.setTop (mkF m 39 #[iv p0, iv p1, iv z7, iv (0 : Int32), iv (2 : Int32), rv a2, .unset, .unset, .unset, .unset] [(.ref a2)]))) (fun t k => XS.aload X2.here hx rfl (hb hby at_37) rfl rfl k) ?_
    refine own_go (B := (T2.setTop (mkF m 40 #[iv p0, iv p1, iv z7, iv (0 : Int32), iv (2 : Int32), rv a2, .unset, .unset, .unset, .unset] [(.int (0 : Int32)), (.ref a2)]))) (fun t k => own_iconst (v := (0 : Int32)) X2.here hx rfl (hb hby at_39) (by decide) k) ?_
    refine own_go (B := (T2.setTop (mkF m 42 #[iv p0, iv p1, iv z7, iv (0 : Int32), iv (2 : Int32), rv a2, .unset, .unset, .unset, .unset] [(.int (48 : Int32)), (.int (0 : Int32)), (.ref a2)]))) (fun t k => own_bipush (v := (48 : Int32)) X2.here hx rfl (hb hby at_40) (by decide) k) ?_
    obtain ⟨T6, h6, X6, e6, W6, V6, st6⟩ := own_stB X2 hx hZ e2 V2 (i := 0) (by decide) (by decide) (Nat.lt_of_lt_of_eq (by decide : 0 < 8) rfl) (by decide) (L' := [(.int (48 : Int32)), (.int (0 : Int32)), (.int (0 : Int32)), (.int (0 : Int32)), (.int (0 : Int32)), (.int (0 : Int32)), (.int (0 : Int32)), (.int (0 : Int32))]) rfl (g := (mkF m 42 #[iv p0, iv p1, iv z7, iv (0 : Int32), iv (2 : Int32), rv a2, .unset, .unset, .unset, .unset] [(.int (48 : Int32)), (.int (0 : Int32)), (.ref a2)])) rfl rfl (hb hby at_42)
    refine own_go (B := (T6.setTop (mkF m 43 #[iv p0, iv p1, iv z7, iv (0 : Int32), iv (2 : Int32), rv a2, .unset, .unset, .unset, .unset] []))) st6 ?_
    obtain ⟨L6, X6, N6⟩ := own_abs X6 (Fr.snoc X6 N0 gn2)
    have F7 : 0 ≤ h6.size := by rw [W6.size]; exact Z3
    have F8 : n0 ≤ h6.size := by rw [W6.size]; exact Z4
    have F9 := Keep.wr K5 W6 (Or.inr (Nat.le_trans K0.1 (Nat.le_of_eq ga2.symm)))
    refine own_go (B := (T6.setTop (mkF m 45 #[iv p0, iv p1, iv z7, iv (0 : Int32), iv (2 : Int32), rv a2, .unset, .unset, .unset, .unset] [(.ref a2)]))) (fun t k => XS.aload X6.here hx rfl (hb hby at_43) rfl rfl k) ?_
    refine own_go (B := (T6.setTop (mkF m 46 #[iv p0, iv p1, iv z7, iv (0 : Int32), iv (2 : Int32), rv a2, .unset, .unset, .unset, .unset] [(.int (1 : Int32)), (.ref a2)]))) (fun t k => own_iconst (v := (1 : Int32)) X6.here hx rfl (hb hby at_45) (by decide) k) ?_
    refine own_go (B := (T6.setTop (mkF m 47 #[iv p0, iv p1, iv z7, iv (0 : Int32), iv (2 : Int32), rv a2, .unset, .unset, .unset, .unset] [(.int z7), (.int (1 : Int32)), (.ref a2)]))) (fun t k => XS.iloadN X6.here hx rfl (hb hby at_46) rfl k) ?_
    refine own_go (B := (T6.setTop (mkF m 48 #[iv p0, iv p1, iv z7, iv (0 : Int32), iv (2 : Int32), rv a2, .unset, .unset, .unset, .unset] [(.int (z7.toInt8.toInt32)), (.int (1 : Int32)), (.ref a2)]))) (fun t k => XS.i2b X6.here hx rfl (hb hby at_47) rfl k) ?_
    rw [hn7]
    obtain ⟨T11, h11, X11, e11, W11, V11, st11⟩ := own_stB X6 hx hZ e6 V6 (i := 1) (by decide) (by decide) (Nat.lt_of_lt_of_eq (by decide : 1 < 8) rfl) hnr7 (L' := [(.int (48 : Int32)), (.int z7), (.int (0 : Int32)), (.int (0 : Int32)), (.int (0 : Int32)), (.int (0 : Int32)), (.int (0 : Int32)), (.int (0 : Int32))]) rfl (g := (mkF m 48 #[iv p0, iv p1, iv z7, iv (0 : Int32), iv (2 : Int32), rv a2, .unset, .unset, .unset, .unset] [(.int z7), (.int (1 : Int32)), (.ref a2)])) rfl rfl (hb hby at_48)
    refine own_go (B := (T11.setTop (mkF m 49 #[iv p0, iv p1, iv z7, iv (0 : Int32), iv (2 : Int32), rv a2, .unset, .unset, .unset, .unset] []))) st11 ?_
    obtain ⟨L11, X11, N11⟩ := own_abs X11 (Fr.snoc X11 N6 gn2)
    have F12 : 0 ≤ h11.size := by rw [W11.size]; exact F7
    have F13 : n0 ≤ h11.size := by rw [W11.size]; exact F8
    have F14 := Keep.wr F9 W11 (Or.inr (Nat.le_trans K0.1 (Nat.le_of_eq ga2.symm)))
    refine own_go (B := (T11.setTop (mkF m 50 #[iv p0, iv p1, iv z7, iv (0 : Int32), iv (2 : Int32), rv a2, .unset, .unset, .unset, .unset] [(.int (0 : Int32))]))) (fun t k => XS.iloadN X11.here hx rfl (hb hby at_49) rfl k) ?_
    have hc50 : (0 : Int32) = (0 : Int32) := (by decide)
    refine own_ifY X11 hx (hb hby at_50) (pc' := 96) (by decide) (by decide) hc50 ?_
    refine own_go (B := (T11.setTop (mkF m 98 #[iv p0, iv p1, iv z7, iv (0 : Int32), iv (2 : Int32), rv a2, .unset, .unset, .unset, .unset] [(.ref a2)]))) (fun t k => XS.aload X11.here hx rfl (hb hby at_96) rfl rfl k) ?_
    refine own_go (B := (T11.setTop (mkF m 99 #[iv p0, iv p1, iv z7, iv (0 : Int32), iv (2 : Int32), rv a2, .unset, .unset, .unset, .unset] [(.int (2 : Int32)), (.ref a2)]))) (fun t k => own_iconst (v := (2 : Int32)) X11.here hx rfl (hb hby at_98) (by decide) k) ?_
    refine own_go (B := (T11.setTop (mkF m 100 #[iv p0, iv p1, iv z7, iv (0 : Int32), iv (2 : Int32), rv a2, .unset, .unset, .unset, .unset] [(.int (5 : Int32)), (.int (2 : Int32)), (.ref a2)]))) (fun t k => own_iconst (v := (5 : Int32)) X11.here hx rfl (hb hby at_99) (by decide) k) ?_
    obtain ⟨T16, h16, X16, e16, W16, V16, st16⟩ := own_stB X11 hx hZ e11 V11 (i := 2) (by decide) (by decide) (Nat.lt_of_lt_of_eq (by decide : 2 < 8) rfl) (by decide) (L' := [(.int (48 : Int32)), (.int z7), (.int (5 : Int32)), (.int (0 : Int32)), (.int (0 : Int32)), (.int (0 : Int32)), (.int (0 : Int32)), (.int (0 : Int32))]) rfl (g := (mkF m 100 #[iv p0, iv p1, iv z7, iv (0 : Int32), iv (2 : Int32), rv a2, .unset, .unset, .unset, .unset] [(.int (5 : Int32)), (.int (2 : Int32)), (.ref a2)])) rfl rfl (hb hby at_100)
    refine own_go (B := (T16.setTop (mkF m 101 #[iv p0, iv p1, iv z7, iv (0 : Int32), iv (2 : Int32), rv a2, .unset, .unset, .unset, .unset] []))) st16 ?_
    obtain ⟨L16, X16, N16⟩ := own_abs X16 (Fr.snoc X16 N11 gn2)
    have F17 : 0 ≤ h16.size := by rw [W16.size]; exact F12
    have F18 : n0 ≤ h16.size := by rw [W16.size]; exact F13
    have F19 := Keep.wr F14 W16 (Or.inr (Nat.le_trans K0.1 (Nat.le_of_eq ga2.symm)))
    refine own_go (B := (T16.setTop (mkF m 103 #[iv p0, iv p1, iv z7, iv (0 : Int32), iv (2 : Int32), rv a2, .unset, .unset, .unset, .unset] [(.ref a2)]))) (fun t k => XS.aload X16.here hx rfl (hb hby at_101) rfl rfl k) ?_
    refine own_go (B := (T16.setTop (mkF m 104 #[iv p0, iv p1, iv z7, iv (0 : Int32), iv (2 : Int32), rv a2, .unset, .unset, .unset, .unset] [(.int (3 : Int32)), (.ref a2)]))) (fun t k => own_iconst (v := (3 : Int32)) X16.here hx rfl (hb hby at_103) (by decide) k) ?_
    refine own_go (B := (T16.setTop (mkF m 105 #[iv p0, iv p1, iv z7, iv (0 : Int32), iv (2 : Int32), rv a2, .unset, .unset, .unset, .unset] [(.int (0 : Int32)), (.int (3 : Int32)), (.ref a2)]))) (fun t k => own_iconst (v := (0 : Int32)) X16.here hx rfl (hb hby at_104) (by decide) k) ?_
    obtain ⟨T21, h21, X21, e21, W21, V21, st21⟩ := own_stB X16 hx hZ e16 V16 (i := 3) (by decide) (by decide) (Nat.lt_of_lt_of_eq (by decide : 3 < 8) rfl) (by decide) (L' := [(.int (48 : Int32)), (.int z7), (.int (5 : Int32)), (.int (0 : Int32)), (.int (0 : Int32)), (.int (0 : Int32)), (.int (0 : Int32)), (.int (0 : Int32))]) rfl (g := (mkF m 105 #[iv p0, iv p1, iv z7, iv (0 : Int32), iv (2 : Int32), rv a2, .unset, .unset, .unset, .unset] [(.int (0 : Int32)), (.int (3 : Int32)), (.ref a2)])) rfl rfl (hb hby at_105)
    refine own_go (B := (T21.setTop (mkF m 106 #[iv p0, iv p1, iv z7, iv (0 : Int32), iv (2 : Int32), rv a2, .unset, .unset, .unset, .unset] []))) st21 ?_
    obtain ⟨L21, X21, N21⟩ := own_abs X21 (Fr.snoc X21 N16 gn2)
    have F22 : 0 ≤ h21.size := by rw [W21.size]; exact F17
    have F23 : n0 ≤ h21.size := by rw [W21.size]; exact F18
    have F24 := Keep.wr F19 W21 (Or.inr (Nat.le_trans K0.1 (Nat.le_of_eq ga2.symm)))
    refine own_go (B := (T21.setTop (mkF m 108 #[iv p0, iv p1, iv z7, iv (0 : Int32), iv (2 : Int32), rv a2, .unset, .unset, .unset, .unset] [(.ref a2)]))) (fun t k => XS.aload X21.here hx rfl (hb hby at_106) rfl rfl k) ?_
    refine own_go (B := (T21.setTop (mkF m 109 #[iv p0, iv p1, iv z7, iv (0 : Int32), iv (2 : Int32), rv a2, .unset, .unset, .unset, .unset] [(.int (4 : Int32)), (.ref a2)]))) (fun t k => own_iconst (v := (4 : Int32)) X21.here hx rfl (hb hby at_108) (by decide) k) ?_
    refine own_go (B := (T21.setTop (mkF m 110 #[iv p0, iv p1, iv z7, iv (0 : Int32), iv (2 : Int32), rv a2, .unset, .unset, .unset, .unset] [(.int (5 : Int32)), (.int (4 : Int32)), (.ref a2)]))) (fun t k => own_iconst (v := (5 : Int32)) X21.here hx rfl (hb hby at_109) (by decide) k) ?_
    obtain ⟨T26, h26, X26, e26, W26, V26, st26⟩ := own_stB X21 hx hZ e21 V21 (i := 4) (by decide) (by decide) (Nat.lt_of_lt_of_eq (by decide : 4 < 8) rfl) (by decide) (L' := [(.int (48 : Int32)), (.int z7), (.int (5 : Int32)), (.int (0 : Int32)), (.int (5 : Int32)), (.int (0 : Int32)), (.int (0 : Int32)), (.int (0 : Int32))]) rfl (g := (mkF m 110 #[iv p0, iv p1, iv z7, iv (0 : Int32), iv (2 : Int32), rv a2, .unset, .unset, .unset, .unset] [(.int (5 : Int32)), (.int (4 : Int32)), (.ref a2)])) rfl rfl (hb hby at_110)
    refine own_go (B := (T26.setTop (mkF m 111 #[iv p0, iv p1, iv z7, iv (0 : Int32), iv (2 : Int32), rv a2, .unset, .unset, .unset, .unset] []))) st26 ?_
    obtain ⟨L26, X26, N26⟩ := own_abs X26 (Fr.snoc X26 N21 gn2)
    have F27 : 0 ≤ h26.size := by rw [W26.size]; exact F22
    have F28 : n0 ≤ h26.size := by rw [W26.size]; exact F23
    have F29 := Keep.wr F24 W26 (Or.inr (Nat.le_trans K0.1 (Nat.le_of_eq ga2.symm)))
    refine own_go (B := (T26.setTop (mkF m 113 #[iv p0, iv p1, iv z7, iv (0 : Int32), iv (2 : Int32), rv a2, .unset, .unset, .unset, .unset] [(.ref a2)]))) (fun t k => XS.aload X26.here hx rfl (hb hby at_111) rfl rfl k) ?_
    refine own_go (B := (T26.setTop (mkF m 114 #[iv p0, iv p1, iv z7, iv (0 : Int32), iv (2 : Int32), rv a2, .unset, .unset, .unset, .unset] [(.int (5 : Int32)), (.ref a2)]))) (fun t k => own_iconst (v := (5 : Int32)) X26.here hx rfl (hb hby at_113) (by decide) k) ?_
    refine own_go (B := (T26.setTop (mkF m 115 #[iv p0, iv p1, iv z7, iv (0 : Int32), iv (2 : Int32), rv a2, .unset, .unset, .unset, .unset] [(.int (0 : Int32)), (.int (5 : Int32)), (.ref a2)]))) (fun t k => own_iconst (v := (0 : Int32)) X26.here hx rfl (hb hby at_114) (by decide) k) ?_
    obtain ⟨T31, h31, X31, e31, W31, V31, st31⟩ := own_stB X26 hx hZ e26 V26 (i := 5) (by decide) (by decide) (Nat.lt_of_lt_of_eq (by decide : 5 < 8) rfl) (by decide) (L' := [(.int (48 : Int32)), (.int z7), (.int (5 : Int32)), (.int (0 : Int32)), (.int (5 : Int32)), (.int (0 : Int32)), (.int (0 : Int32)), (.int (0 : Int32))]) rfl (g := (mkF m 115 #[iv p0, iv p1, iv z7, iv (0 : Int32), iv (2 : Int32), rv a2, .unset, .unset, .unset, .unset] [(.int (0 : Int32)), (.int (5 : Int32)), (.ref a2)])) rfl rfl (hb hby at_115)
    refine own_go (B := (T31.setTop (mkF m 116 #[iv p0, iv p1, iv z7, iv (0 : Int32), iv (2 : Int32), rv a2, .unset, .unset, .unset, .unset] []))) st31 ?_
    obtain ⟨L31, X31, N31⟩ := own_abs X31 (Fr.snoc X31 N26 gn2)
    have F32 : 0 ≤ h31.size := by rw [W31.size]; exact F27
    have F33 : n0 ≤ h31.size := by rw [W31.size]; exact F28
    have F34 := Keep.wr F29 W31 (Or.inr (Nat.le_trans K0.1 (Nat.le_of_eq ga2.symm)))
    refine own_go (B := (T31.setTop (mkF m 118 #[iv p0, iv p1, iv z7, iv (0 : Int32), iv (2 : Int32), rv a2, .unset, .unset, .unset, .unset] [(.ref a2)]))) (fun t k => XS.aload X31.here hx rfl (hb hby at_116) rfl rfl k) ?_
    refine own_go (B := (T31.setTop (mkF m 120 #[iv p0, iv p1, iv z7, iv (0 : Int32), iv (2 : Int32), rv a2, .unset, .unset, .unset, .unset] [(.int (6 : Int32)), (.ref a2)]))) (fun t k => own_bipush (v := (6 : Int32)) X31.here hx rfl (hb hby at_118) (by decide) k) ?_
    refine own_go (B := (T31.setTop (mkF m 121 #[iv p0, iv p1, iv z7, iv (0 : Int32), iv (2 : Int32), rv a2, .unset, .unset, .unset, .unset] [(.int (5 : Int32)), (.int (6 : Int32)), (.ref a2)]))) (fun t k => own_iconst (v := (5 : Int32)) X31.here hx rfl (hb hby at_120) (by decide) k) ?_
    obtain ⟨T36, h36, X36, e36, W36, V36, st36⟩ := own_stB X31 hx hZ e31 V31 (i := 6) (by decide) (by decide) (Nat.lt_of_lt_of_eq (by decide : 6 < 8) rfl) (by decide) (L' := [(.int (48 : Int32)), (.int z7), (.int (5 : Int32)), (.int (0 : Int32)), (.int (5 : Int32)), (.int (0 : Int32)), (.int (5 : Int32)), (.int (0 : Int32))]) rfl (g := (mkF m 121 #[iv p0, iv p1, iv z7, iv (0 : Int32), iv (2 : Int32), rv a2, .unset, .unset, .unset, .unset] [(.int (5 : Int32)), (.int (6 : Int32)), (.ref a2)])) rfl rfl (hb hby at_121)
    refine own_go (B := (T36.setTop (mkF m 122 #[iv p0, iv p1, iv z7, iv (0 : Int32), iv (2 : Int32), rv a2, .unset, .unset, .unset, .unset] []))) st36 ?_
    obtain ⟨L36, X36, N36⟩ := own_abs X36 (Fr.snoc X36 N31 gn2)
    have F37 : 0 ≤ h36.size := by rw [W36.size]; exact F32
    have F38 : n0 ≤ h36.size := by rw [W36.size]; exact F33
    have F39 := Keep.wr F34 W36 (Or.inr (Nat.le_trans K0.1 (Nat.le_of_eq ga2.symm)))
    refine own_go (B := (T36.setTop (mkF m 124 #[iv p0, iv p1, iv z7, iv (0 : Int32), iv (2 : Int32), rv a2, .unset, .unset, .unset, .unset] [(.ref a2)]))) (fun t k => XS.aload X36.here hx rfl (hb hby at_122) rfl rfl k) ?_
    refine own_go (B := (T36.setTop (mkF m 126 #[iv p0, iv p1, iv z7, iv (0 : Int32), iv (2 : Int32), rv a2, .unset, .unset, .unset, .unset] [(.int (7 : Int32)), (.ref a2)]))) (fun t k => own_bipush (v := (7 : Int32)) X36.here hx rfl (hb hby at_124) (by decide) k) ?_
    refine own_go (B := (T36.setTop (mkF m 127 #[iv p0, iv p1, iv z7, iv (0 : Int32), iv (2 : Int32), rv a2, .unset, .unset, .unset, .unset] [(.int (0 : Int32)), (.int (7 : Int32)), (.ref a2)]))) (fun t k => own_iconst (v := (0 : Int32)) X36.here hx rfl (hb hby at_126) (by decide) k) ?_
    obtain ⟨T41, h41, X41, e41, W41, V41, st41⟩ := own_stB X36 hx hZ e36 V36 (i := 7) (by decide) (by decide) (Nat.lt_of_lt_of_eq (by decide : 7 < 8) rfl) (by decide) (L' := [(.int (48 : Int32)), (.int z7), (.int (5 : Int32)), (.int (0 : Int32)), (.int (5 : Int32)), (.int (0 : Int32)), (.int (5 : Int32)), (.int (0 : Int32))]) rfl (g := (mkF m 127 #[iv p0, iv p1, iv z7, iv (0 : Int32), iv (2 : Int32), rv a2, .unset, .unset, .unset, .unset] [(.int (0 : Int32)), (.int (7 : Int32)), (.ref a2)])) rfl rfl (hb hby at_127)
    refine own_go (B := (T41.setTop (mkF m 128 #[iv p0, iv p1, iv z7, iv (0 : Int32), iv (2 : Int32), rv a2, .unset, .unset, .unset, .unset] []))) st41 ?_
    obtain ⟨L41, X41, N41⟩ := own_abs X41 (Fr.snoc X41 N36 gn2)
    have F42 : 0 ≤ h41.size := by rw [W41.size]; exact F37
    have F43 : n0 ≤ h41.size := by rw [W41.size]; exact F38
    have F44 := Keep.wr F39 W41 (Or.inr (Nat.le_trans K0.1 (Nat.le_of_eq ga2.symm)))
    obtain ⟨T46, h46, X46, e46, E46, A46, D46, U46, st46⟩ := newO X41 hx hZ hown w_2 w_3 w_4 e41 (g := (mkF m 128 #[iv p0, iv p1, iv z7, iv (0 : Int32), iv (2 : Int32), rv a2, .unset, .unset, .unset, .unset] [])) rfl (hb hby at_128) (own_b rfl) (own_b rfl)
    obtain ⟨a46, ga46⟩ : ∃ z, z = h41.size := ⟨_, rfl⟩
    rw [← ga46] at A46 D46 U46 st46
    refine own_go (B := (T46.setTop (mkF m 131 #[iv p0, iv p1, iv z7, iv (0 : Int32), iv (2 : Int32), rv a2, .unset, .unset, .unset, .unset] [(.ref a46)]))) st46 ?_
    have Z47 : 0 ≤ h46.size := Nat.le_trans F42 E46.1
    have Z48 : n0 ≤ h46.size := Nat.le_trans F43 E46.1
    have K49 := Keep.ext F44 E46
    have V50 := own_Ar_ext V41 E46
    have gn46 : n0 ≤ a46 := Nat.le_trans F43 (Nat.le_of_eq ga46.symm)
    have ne46_a2 : a46 ≠ a2 := fun q => absurd (own_Ar_lt V41) (by rw [← q, ga46]; exact Nat.lt_irrefl _)
    have F51 : Fld Z h46 a46 "com/example/honeybee/honeybee/device/DerReader" "bytes" "[B" .null := D46 (Or.inr w_15) (ty := (.array .byte)) (by decide)
    have F52 : Fld Z h46 a46 "com/example/honeybee/honeybee/device/DerReader" "position" "I" (.int (0 : Int32)) := D46 (Or.inl w_17) (ty := .int) (by decide)
    have F53 : Fld Z h46 a46 "com/example/honeybee/honeybee/device/DerReader" "end" "I" (.int (0 : Int32)) := D46 (Or.inr w_19) (ty := .int) (by decide)
    refine own_go (B := (T46.setTop (mkF m 132 #[iv p0, iv p1, iv z7, iv (0 : Int32), iv (2 : Int32), rv a2, .unset, .unset, .unset, .unset] [(.ref a46), (.ref a46)]))) (fun t k => XS.dup X46.here hx rfl (hb hby at_131) rfl rfl k) ?_
    refine own_go (B := (T46.setTop (mkF m 134 #[iv p0, iv p1, iv z7, iv (0 : Int32), iv (2 : Int32), rv a2, .unset, .unset, .unset, .unset] [(.ref a2), (.ref a46), (.ref a46)]))) (fun t k => XS.aload X46.here hx rfl (hb hby at_132) rfl rfl k) ?_
    obtain ⟨_, _, ⟨T54, L54, k54, n54⟩, -, X54, ⟨Lc54, hQ54, l54, yy54, zz54⟩, st54⟩ := X46.specialBack hx (y := own_y16) rfl hown (mvT hZ w_5) (mvT hZ w_6) (mvT hZ w_7) (by decide) (backOf (W := 1) (own_ct1 l Z a0 hw [] a46 a2 (8 : Int32) [(.int (48 : Int32)), (.int z7), (.int (5 : Int32)), (.int (0 : Int32)), (.int (5 : Int32)), (.int (0 : Int32)), (.int (5 : Int32)), (.int (0 : Int32))] h46 n0 Z48 A46 gn46 F51 F52 F53 V50 (own_lenL (n := 8) rfl (by decide))) hZ w_7 w_4 (by decide) (by decide)) (g := (mkF m 134 #[iv p0, iv p1, iv z7, iv (0 : Int32), iv (2 : Int32), rv a2, .unset, .unset, .unset, .unset] [(.ref a2), (.ref a46), (.ref a46)])) rfl (by rw [hml]; rfl) (Steps.refl _) (a := a46) (argsL := [(.ref a2)]) (rest := [(.ref a46)]) (lenOf own_pd10 rfl) rfl (by show 2 * 0 + _ ≤ _; exact own_b rfl) (hb hby at_134) (fun _ _ => ⟨rfl, e46, (own_b rfl : 2 + 0 ≤ _), (own_b rfl : 11 + 0 ≤ _)⟩)
    dsimp only [Pt.U, Pt.locs, Pt.cells, Pt.slots] at X54 l54 yy54 zz54 st54 hQ54
    obtain ⟨rfl, Nq54, K54, Ex54, gb54, gp54, ge54⟩ := hQ54
    obtain ⟨L54, X54, N54⟩ := own_absC (K := 2) (K' := 11) X54 l54 yy54 zz54 N41 Nq54
    have F55 : 0 ≤ T54.heap.size := Nat.le_trans Z47 K54.1
    have F56 : n0 ≤ T54.heap.size := Nat.le_trans Z48 K54.1
    have F57 := Keep.trans K49 K54 (allS (Or.inr (Nat.le_trans F44.1 (Nat.le_of_eq ga46.symm))) all0)
    have F58 := own_Ar_keep V50 K54 (ninS (Ne.symm ne46_a2) nin0)
    have F59 := Exa.keep A46 K54
    refine own_tr (B := (T54.setTop (mkF m 137 #[iv p0, iv p1, iv z7, iv (0 : Int32), iv (2 : Int32), rv a2, .unset, .unset, .unset, .unset] [(.ref a46)]))) st54 ?_
    refine own_go (B := (T54.setTop (mkF m 139 #[iv p0, iv p1, iv z7, iv (0 : Int32), iv (2 : Int32), rv a2, rv a46, .unset, .unset, .unset] []))) (fun t k => XS.astore X54.here hx rfl (hb hby at_137) rfl rfl (l' := #[iv p0, iv p1, iv z7, iv (0 : Int32), iv (2 : Int32), rv a2, rv a46, .unset, .unset, .unset]) rfl k) ?_
    refine own_go (B := (T54.setTop (mkF m 141 #[iv p0, iv p1, iv z7, iv (0 : Int32), iv (2 : Int32), rv a2, rv a46, .unset, .unset, .unset] [(.ref a46)]))) (fun t k => XS.aload X54.here hx rfl (hb hby at_139) rfl rfl k) ?_
    obtain ⟨cq63, kq63, qa63, qb63, qc63⟩ := isOf hZ rfl Ex54
    obtain ⟨_, _, ⟨T63, L63, k63, n63⟩, -, X63, ⟨Lc63, hQ63, l63, yy63, zz63⟩, st63⟩ := X54.virtualBack hx (y := own_y17) (z := own_y17) hown (mvT hZ w_20) (mvT hZ w_21) (notFace_of_selects (args := #[]) (mvT hZ w_23)) (mvT hZ w_23) (mvT hZ w_22) (by decide) (backOf (W := 0) (own_ae l Z a0 hw [] a46 (0 : Int32) (8 : Int32) T54.heap n0 gp54 ge54) hZ w_24 w_4 (by decide) (by decide)) qa63 qc63 (g := (mkF m 141 #[iv p0, iv p1, iv z7, iv (0 : Int32), iv (2 : Int32), rv a2, rv a46, .unset, .unset, .unset] [(.ref a46)])) rfl (by rw [hml]; rfl) (Steps.refl _) (argsL := []) (rest := []) (lenOf own_pd12 rfl) rfl (by show 2 * 0 + _ ≤ _; exact own_b rfl) (hb hby at_141) (fun _ _ => ⟨rfl, rfl, (own_b rfl : 2 + 0 ≤ _), (own_b rfl : 11 + 0 ≤ _)⟩)
    dsimp only [Pt.U, Pt.locs, Pt.cells, Pt.slots] at X63 l63 yy63 zz63 st63 hQ63
    obtain ⟨rfl, Nq63, eq63⟩ := hQ63
    obtain ⟨L63, X63, N63⟩ := own_absC (K := 2) (K' := 11) X63 l63 yy63 zz63 N54 Nq63
    have e63 : T63.heap = T54.heap := eq63
    refine own_tr (B := (T63.setTop (mkF m 144 #[iv p0, iv p1, iv z7, iv (0 : Int32), iv (2 : Int32), rv a2, rv a46, .unset, .unset, .unset] [(.int (own_eqr (0 : Int32) (8 : Int32)))]))) st63 ?_
    rw [show own_eqr (0 : Int32) (8 : Int32) = (0 : Int32) from by decide]
    have hc144 : (0 : Int32) = (0 : Int32) := (by decide)
    refine own_ifN X63 hx (hb hby at_144) (pn := 147) rfl hc144 ?_
    refine own_go (B := (T63.setTop (mkF m 148 #[iv p0, iv p1, iv z7, iv (0 : Int32), iv (2 : Int32), rv a2, rv a46, .unset, .unset, .unset] [(.int (1 : Int32))]))) (fun t k => own_iconst (v := (1 : Int32)) X63.here hx rfl (hb hby at_147) (by decide) k) ?_
    refine own_go (B := (T63.setTop (mkF m 152 #[iv p0, iv p1, iv z7, iv (0 : Int32), iv (2 : Int32), rv a2, rv a46, .unset, .unset, .unset] [(.int (1 : Int32))]))) (fun t k => XS.goto X63.here hx rfl (pc0 := 148) (pc' := 152) rfl (hb hby at_148) (by decide) (by decide) k) ?_
    refine own_go (B := (T63.setTop (mkF m 154 #[iv p0, iv p1, iv z7, iv (0 : Int32), iv (2 : Int32), rv a2, rv a46, iv (1 : Int32), .unset, .unset] []))) (fun t k => XS.istore X63.here hx rfl (hb hby at_152) rfl (l' := #[iv p0, iv p1, iv z7, iv (0 : Int32), iv (2 : Int32), rv a2, rv a46, iv (1 : Int32), .unset, .unset]) rfl k) ?_
    refine own_go (B := (T63.setTop (mkF m 156 #[iv p0, iv p1, iv z7, iv (0 : Int32), iv (2 : Int32), rv a2, rv a46, iv (1 : Int32), .unset, .unset] [(.ref a46)]))) (fun t k => XS.aload X63.here hx rfl (hb hby at_154) rfl rfl k) ?_
    obtain ⟨cq64, kq64, qa64, qb64, qc64⟩ := isOf hZ e63 Ex54
    obtain ⟨_, _, ⟨T64, L64, k64, n64⟩, -, X64, hs64, hg64, ⟨Lc64, hQ64, l64, yy64, zz64⟩, st64⟩ := X63.virtualBackS hx (y := own_y18) (z := own_y18) hown (mvT hZ w_25) (mvT hZ w_26) (notFace_of_selects (args := #[]) (mvT hZ w_28)) (mvT hZ w_28) (mvT hZ w_27) (by decide) (backOfS (W := 0) (own_sq l Z a0 hw [] a46 a2 z7 pe [(.int (48 : Int32)), (.int z7), (.int (5 : Int32)), (.int (0 : Int32)), (.int (5 : Int32)), (.int (0 : Int32)), (.int (5 : Int32)), (.int (0 : Int32))] T54.heap n0 F56 Ex54 gn46 gb54 gp54 ge54 F58 (by decide) (by decide) (by decide) rfl (by decide) rfl hq3 hq4 (by decide) hq5 hpe.symm) hZ w_29 w_4 (by decide) (by decide)) qa64 qc64 (g := (mkF m 156 #[iv p0, iv p1, iv z7, iv (0 : Int32), iv (2 : Int32), rv a2, rv a46, iv (1 : Int32), .unset, .unset] [(.ref a46)])) rfl (by rw [hml]; rfl) (Steps.refl _) (argsL := []) (rest := []) (lenOf own_pd13 rfl) rfl (by show 2 * 0 + _ ≤ _; exact own_b rfl) (hb hby at_156) (fun _ _ => ⟨rfl, e63, (own_b rfl : 2 + 3 ≤ _), (own_b rfl : 11 + 39 ≤ _)⟩)
    dsimp only [Pt.U, Pt.locs, Pt.cells, Pt.slots] at X64 l64 yy64 zz64 st64 hQ64 hs64 hg64
    obtain ⟨b64, rfl, Nq64, K64, gz64, Exo64, gbo64, gpo64, geo64, Exi64, gbi64, gpi64, gei64⟩ := hQ64
    obtain ⟨L64, X64, N64⟩ := own_absC (K := 5) (K' := 50) X64 l64 yy64 zz64 N63 Nq64
    have X64 : Stand p l e room_1 (s.setVm T64.vm) m #[(.int p0), (.int p1)] below meth c T64 L64 5 50 := X64
    have hS64 := foldS hS0 (T := T63) (by rw [e63]; exact F55) hs64 hg64
    have hZ64 : Z.Warmed39 (s.setVm T64.vm).vm := State.Warmed39.trans (t := s.setVm s.vm) hZ hs64.1
    have ho64 : (s.setVm T64.vm).vm.findClass "com/example/honeybee/honeybee/device/DerReaderAtEndPinLaw" = some m.cls := by rw [show (s.setVm T64.vm).vm = T64.vm from rfl, hs64.1.alike.findClass]; exact hown
    have F65 : n0 ≤ T64.heap.size := Nat.le_trans F56 K64.1
    have F66 := Keep.trans F57 K64 (allS (Or.inr (Nat.le_trans F44.1 (Nat.le_of_eq ga46.symm))) all0)
    have F67 := own_Ar_keep F58 K64 (ninS (Ne.symm ne46_a2) nin0)
    have F68 := Exa.keep Ex54 K64
    have gn_b64 : n0 ≤ b64 := Nat.le_trans F56 gz64
    have nb64_a2 : b64 ≠ a2 := fun q => absurd (own_Ar_lt F58) (by rw [← q]; exact Nat.not_lt.mpr gz64)
    have nb64_a46 : b64 ≠ a46 := fun q => absurd Ex54.lt (by rw [← q]; exact Nat.not_lt.mpr gz64)
    have hk64 : T64.heap.size ≤ T64.heap.size := Nat.le_refl _
    refine own_tr (B := (T64.setTop (mkF m 159 #[iv p0, iv p1, iv z7, iv (0 : Int32), iv (2 : Int32), rv a2, rv a46, iv (1 : Int32), .unset, .unset] [(.ref b64)]))) st64 ?_
    rcases h7 with rfl | rfl | rfl | rfl | rfl | rfl | rfl
    · obtain rfl : pe = (2 : Int32) := hpe.trans (by decide)
      refine own_go (B := (T64.setTop (mkF m 161 #[iv p0, iv p1, iv (0 : Int32), iv (0 : Int32), iv (2 : Int32), rv a2, rv a46, iv (1 : Int32), rv b64, .unset] []))) (fun t k => XS.astore X64.here hx rfl (hb hby at_159) rfl rfl (l' := #[iv p0, iv p1, iv (0 : Int32), iv (0 : Int32), iv (2 : Int32), rv a2, rv a46, iv (1 : Int32), rv b64, .unset]) rfl k) ?_
      refine own_go (B := (T64.setTop (mkF m 163 #[iv p0, iv p1, iv (0 : Int32), iv (0 : Int32), iv (2 : Int32), rv a2, rv a46, iv (1 : Int32), rv b64, .unset] [(.int (1 : Int32))]))) (fun t k => XS.iload X64.here hx rfl (hb hby at_161) rfl k) ?_
      have hc163 : ¬ (1 : Int32) = (0 : Int32) := (by decide)
      refine own_ifN X64 hx (hb hby at_163) (pn := 166) rfl hc163 ?_
      refine own_go (B := (T64.setTop (mkF m 168 #[iv p0, iv p1, iv (0 : Int32), iv (0 : Int32), iv (2 : Int32), rv a2, rv a46, iv (1 : Int32), rv b64, .unset] [(.ref a46)]))) (fun t k => XS.aload X64.here hx rfl (hb hby at_166) rfl rfl k) ?_
      obtain ⟨cq72, kq72, qa72, qb72, qc72⟩ := isOf hZ64 rfl Exo64
      obtain ⟨_, _, ⟨T72, L72, k72, n72⟩, -, X72, ⟨Lc72, hQ72, l72, yy72, zz72⟩, st72⟩ := X64.virtualBack hx (y := own_y17) (z := own_y17) ho64 (mvT hZ64 w_20) (mvT hZ64 w_21) (notFace_of_selects (args := #[]) (mvT hZ64 w_23)) (mvT hZ64 w_23) (mvT hZ64 w_22) (by decide) (backOf (W := 0) (own_ae l Z a0 hw [] a46 (2 : Int32) (8 : Int32) T64.heap n0 gpo64 geo64) hZ64 w_24 w_4 (by decide) (by decide)) qa72 qc72 (g := (mkF m 168 #[iv p0, iv p1, iv (0 : Int32), iv (0 : Int32), iv (2 : Int32), rv a2, rv a46, iv (1 : Int32), rv b64, .unset] [(.ref a46)])) rfl (by rw [hml]; rfl) (Steps.refl _) (argsL := []) (rest := []) (lenOf own_pd12 rfl) rfl (by show 2 * 0 + _ ≤ _; exact own_b rfl) (hb hby at_168) (fun _ _ => ⟨rfl, rfl, (own_b rfl : 5 + 0 ≤ _), (own_b rfl : 50 + 0 ≤ _)⟩)
      dsimp only [Pt.U, Pt.locs, Pt.cells, Pt.slots] at X72 l72 yy72 zz72 st72 hQ72
      obtain ⟨rfl, Nq72, eq72⟩ := hQ72
      obtain ⟨L72, X72, N72⟩ := own_absC (K := 5) (K' := 50) X72 l72 yy72 zz72 N64 Nq72
      have e72 : T72.heap = T64.heap := eq72
      refine own_tr (B := (T72.setTop (mkF m 171 #[iv p0, iv p1, iv (0 : Int32), iv (0 : Int32), iv (2 : Int32), rv a2, rv a46, iv (1 : Int32), rv b64, .unset] [(.int (own_eqr (2 : Int32) (8 : Int32)))]))) st72 ?_
      rw [show own_eqr (2 : Int32) (8 : Int32) = (0 : Int32) from by decide]
      refine own_go (B := (T72.setTop (mkF m 172 #[iv p0, iv p1, iv (0 : Int32), iv (0 : Int32), iv (2 : Int32), rv a2, rv a46, iv (1 : Int32), rv b64, .unset] [(.int (0 : Int32)), (.int (0 : Int32))]))) (fun t k => XS.iloadN X72.here hx rfl (hb hby at_171) rfl k) ?_
      refine own_go (B := (T72.setTop (mkF m 174 #[iv p0, iv p1, iv (0 : Int32), iv (0 : Int32), iv (2 : Int32), rv a2, rv a46, iv (1 : Int32), rv b64, .unset] [(.int (6 : Int32)), (.int (0 : Int32)), (.int (0 : Int32))]))) (fun t k => own_bipush (v := (6 : Int32)) X72.here hx rfl (hb hby at_172) (by decide) k) ?_
      have hc174 : ¬ (0 : Int32) = (6 : Int32) := (by decide)
      refine own_icmpY X72 hx (hb hby at_174) (pc' := 181) (by decide) (by decide) hc174 ?_
      refine own_go (B := (T72.setTop (mkF m 182 #[iv p0, iv p1, iv (0 : Int32), iv (0 : Int32), iv (2 : Int32), rv a2, rv a46, iv (1 : Int32), rv b64, .unset] [(.int (0 : Int32)), (.int (0 : Int32))]))) (fun t k => own_iconst (v := (0 : Int32)) X72.here hx rfl (hb hby at_181) (by decide) k) ?_
      have hc182 : (0 : Int32) = (0 : Int32) := (by decide)
      refine own_icmpN X72 hx (hb hby at_182) (pn := 185) rfl hc182 ?_
      refine own_go (B := (T72.setTop (mkF m 186 #[iv p0, iv p1, iv (0 : Int32), iv (0 : Int32), iv (2 : Int32), rv a2, rv a46, iv (1 : Int32), rv b64, .unset] [(.int (1 : Int32))]))) (fun t k => own_iconst (v := (1 : Int32)) X72.here hx rfl (hb hby at_185) (by decide) k) ?_
      refine own_go (B := (T72.setTop (mkF m 190 #[iv p0, iv p1, iv (0 : Int32), iv (0 : Int32), iv (2 : Int32), rv a2, rv a46, iv (1 : Int32), rv b64, .unset] [(.int (1 : Int32))]))) (fun t k => XS.goto X72.here hx rfl (pc0 := 186) (pc' := 190) rfl (hb hby at_186) (by decide) (by decide) k) ?_
      refine own_go (B := (T72.setTop (mkF m 192 #[iv p0, iv p1, iv (0 : Int32), iv (0 : Int32), iv (2 : Int32), rv a2, rv a46, iv (1 : Int32), rv b64, .unset] []))) (fun t k => XS.istore X72.here hx rfl (hb hby at_190) rfl (l' := #[iv p0, iv p1, iv (0 : Int32), iv (0 : Int32), iv (2 : Int32), rv a2, rv a46, iv (1 : Int32), rv b64, .unset]) rfl k) ?_
      refine own_go (B := (T72.setTop (mkF m 194 #[iv p0, iv p1, iv (0 : Int32), iv (0 : Int32), iv (2 : Int32), rv a2, rv a46, iv (1 : Int32), rv b64, .unset] [(.int (1 : Int32))]))) (fun t k => XS.iload X72.here hx rfl (hb hby at_192) rfl k) ?_
      have hc194 : ¬ (1 : Int32) = (0 : Int32) := (by decide)
      refine own_ifN X72 hx (hb hby at_194) (pn := 197) rfl hc194 ?_
      refine own_go (B := (T72.setTop (mkF m 199 #[iv p0, iv p1, iv (0 : Int32), iv (0 : Int32), iv (2 : Int32), rv a2, rv a46, iv (1 : Int32), rv b64, .unset] [(.ref b64)]))) (fun t k => XS.aload X72.here hx rfl (hb hby at_197) rfl rfl k) ?_
      obtain ⟨cq73, kq73, qa73, qb73, qc73⟩ := isOf hZ64 e72 Exi64
      obtain ⟨_, _, ⟨T73, L73, k73, n73⟩, -, X73, ⟨Lc73, hQ73, l73, yy73, zz73⟩, st73⟩ := X72.virtualBack hx (y := own_y17) (z := own_y17) ho64 (mvT hZ64 w_20) (mvT hZ64 w_21) (notFace_of_selects (args := #[]) (mvT hZ64 w_23)) (mvT hZ64 w_23) (mvT hZ64 w_22) (by decide) (backOf (W := 0) (own_ae l Z a0 hw [] b64 (2 : Int32) (2 : Int32) T64.heap n0 gpi64 gei64) hZ64 w_24 w_4 (by decide) (by decide)) qa73 qc73 (g := (mkF m 199 #[iv p0, iv p1, iv (0 : Int32), iv (0 : Int32), iv (2 : Int32), rv a2, rv a46, iv (1 : Int32), rv b64, .unset] [(.ref b64)])) rfl (by rw [hml]; rfl) (Steps.refl _) (argsL := []) (rest := []) (lenOf own_pd12 rfl) rfl (by show 2 * 0 + _ ≤ _; exact own_b rfl) (hb hby at_199) (fun _ _ => ⟨rfl, e72, (own_b rfl : 5 + 0 ≤ _), (own_b rfl : 50 + 0 ≤ _)⟩)
      dsimp only [Pt.U, Pt.locs, Pt.cells, Pt.slots] at X73 l73 yy73 zz73 st73 hQ73
      obtain ⟨rfl, Nq73, eq73⟩ := hQ73
      obtain ⟨L73, X73, N73⟩ := own_absC (K := 5) (K' := 50) X73 l73 yy73 zz73 N72 Nq73
      have e73 : T73.heap = T64.heap := eq73
      refine own_tr (B := (T73.setTop (mkF m 202 #[iv p0, iv p1, iv (0 : Int32), iv (0 : Int32), iv (2 : Int32), rv a2, rv a46, iv (1 : Int32), rv b64, .unset] [(.int (own_eqr (2 : Int32) (2 : Int32)))]))) st73 ?_
      rw [show own_eqr (2 : Int32) (2 : Int32) = (1 : Int32) from by decide]
      refine own_go (B := (T73.setTop (mkF m 203 #[iv p0, iv p1, iv (0 : Int32), iv (0 : Int32), iv (2 : Int32), rv a2, rv a46, iv (1 : Int32), rv b64, .unset] [(.int (0 : Int32)), (.int (1 : Int32))]))) (fun t k => XS.iloadN X73.here hx rfl (hb hby at_202) rfl k) ?_
      have hc203 : (0 : Int32) = (0 : Int32) := (by decide)
      refine own_ifN X73 hx (hb hby at_203) (pn := 206) rfl hc203 ?_
      refine own_go (B := (T73.setTop (mkF m 207 #[iv p0, iv p1, iv (0 : Int32), iv (0 : Int32), iv (2 : Int32), rv a2, rv a46, iv (1 : Int32), rv b64, .unset] [(.int (1 : Int32)), (.int (1 : Int32))]))) (fun t k => own_iconst (v := (1 : Int32)) X73.here hx rfl (hb hby at_206) (by decide) k) ?_
      refine own_go (B := (T73.setTop (mkF m 211 #[iv p0, iv p1, iv (0 : Int32), iv (0 : Int32), iv (2 : Int32), rv a2, rv a46, iv (1 : Int32), rv b64, .unset] [(.int (1 : Int32)), (.int (1 : Int32))]))) (fun t k => XS.goto X73.here hx rfl (pc0 := 207) (pc' := 211) rfl (hb hby at_207) (by decide) (by decide) k) ?_
      have hc211 : (1 : Int32) = (1 : Int32) := (by decide)
      refine own_icmpN X73 hx (hb hby at_211) (pn := 214) rfl hc211 ?_
      refine own_go (B := (T73.setTop (mkF m 215 #[iv p0, iv p1, iv (0 : Int32), iv (0 : Int32), iv (2 : Int32), rv a2, rv a46, iv (1 : Int32), rv b64, .unset] [(.int (1 : Int32))]))) (fun t k => own_iconst (v := (1 : Int32)) X73.here hx rfl (hb hby at_214) (by decide) k) ?_
      refine own_go (B := (T73.setTop (mkF m 219 #[iv p0, iv p1, iv (0 : Int32), iv (0 : Int32), iv (2 : Int32), rv a2, rv a46, iv (1 : Int32), rv b64, .unset] [(.int (1 : Int32))]))) (fun t k => XS.goto X73.here hx rfl (pc0 := 215) (pc' := 219) rfl (hb hby at_215) (by decide) (by decide) k) ?_
      refine own_go (B := (T73.setTop (mkF m 221 #[iv p0, iv p1, iv (0 : Int32), iv (0 : Int32), iv (2 : Int32), rv a2, rv a46, iv (1 : Int32), rv b64, .unset] []))) (fun t k => XS.istore X73.here hx rfl (hb hby at_219) rfl (l' := #[iv p0, iv p1, iv (0 : Int32), iv (0 : Int32), iv (2 : Int32), rv a2, rv a46, iv (1 : Int32), rv b64, .unset]) rfl k) ?_
      refine own_go (B := (T73.setTop (mkF m 222 #[iv p0, iv p1, iv (0 : Int32), iv (0 : Int32), iv (2 : Int32), rv a2, rv a46, iv (1 : Int32), rv b64, .unset] [(.int (0 : Int32))]))) (fun t k => XS.iloadN X73.here hx rfl (hb hby at_221) rfl k) ?_
      refine own_go (B := (T73.setTop (mkF m 224 #[iv p0, iv p1, iv (0 : Int32), iv (0 : Int32), iv (2 : Int32), rv a2, rv a46, iv (1 : Int32), rv b64, .unset] [(.int (2 : Int32)), (.int (0 : Int32))]))) (fun t k => XS.iload X73.here hx rfl (hb hby at_222) rfl k) ?_
      refine own_go (B := (T73.setTop (mkF m 225 #[iv p0, iv p1, iv (0 : Int32), iv (0 : Int32), iv (2 : Int32), rv a2, rv a46, iv (1 : Int32), rv b64, .unset] [(.int ((0 : Int32) / (2 : Int32)))]))) (fun t k => XS.idiv (x := (0 : Int32)) (y := (2 : Int32)) X73.here hx rfl (hb hby at_224) rfl (by decide) k) ?_
      rw [show ((0 : Int32) / (2 : Int32)) = (0 : Int32) from by decide]
      refine own_go (B := (T73.setTop (mkF m 227 #[iv p0, iv p1, iv (0 : Int32), iv (0 : Int32), iv (2 : Int32), rv a2, rv a46, iv (1 : Int32), rv b64, iv (0 : Int32)] []))) (fun t k => XS.istore X73.here hx rfl (hb hby at_225) rfl (l' := #[iv p0, iv p1, iv (0 : Int32), iv (0 : Int32), iv (2 : Int32), rv a2, rv a46, iv (1 : Int32), rv b64, iv (0 : Int32)]) rfl k) ?_
      refine own_go (B := (T73.setTop (mkF m 229 #[iv p0, iv p1, iv (0 : Int32), iv (0 : Int32), iv (2 : Int32), rv a2, rv a46, iv (1 : Int32), rv b64, iv (0 : Int32)] [(.int (0 : Int32))]))) (fun t k => XS.iload X73.here hx rfl (hb hby at_227) rfl k) ?_
      refine own_go (B := (T73.setTop (mkF m 230 #[iv p0, iv p1, iv (0 : Int32), iv (0 : Int32), iv (2 : Int32), rv a2, rv a46, iv (1 : Int32), rv b64, iv (0 : Int32)] [(.int (1 : Int32)), (.int (0 : Int32))]))) (fun t k => own_iconst (v := (1 : Int32)) X73.here hx rfl (hb hby at_229) (by decide) k) ?_
      have hc230 : (0 : Int32) < (1 : Int32) := (by decide)
      refine own_icmpY X73 hx (hb hby at_230) (pc' := 270) (by decide) (by decide) hc230 ?_
      refine own_go (B := (T73.setTop (mkF m 272 #[iv p0, iv p1, iv (0 : Int32), iv (0 : Int32), iv (2 : Int32), rv a2, rv a46, iv (1 : Int32), rv b64, iv (0 : Int32)] [(.int (0 : Int32))]))) (fun t k => XS.iload X73.here hx rfl (hb hby at_270) rfl k) ?_
      refine own_go (B := (T73.setTop (mkF m 273 #[iv p0, iv p1, iv (0 : Int32), iv (0 : Int32), iv (2 : Int32), rv a2, rv a46, iv (1 : Int32), rv b64, iv (0 : Int32)] [(.int (2 : Int32)), (.int (0 : Int32))]))) (fun t k => own_iconst (v := (2 : Int32)) X73.here hx rfl (hb hby at_272) (by decide) k) ?_
      have hc273 : (0 : Int32) < (2 : Int32) := (by decide)
      refine own_icmpY X73 hx (hb hby at_273) (pc' := 315) (by decide) (by decide) hc273 ?_
      refine own_go (B := (T73.setTop (mkF m 317 #[iv p0, iv p1, iv (0 : Int32), iv (0 : Int32), iv (2 : Int32), rv a2, rv a46, iv (1 : Int32), rv b64, iv (0 : Int32)] [(.int (0 : Int32))]))) (fun t k => XS.iload X73.here hx rfl (hb hby at_315) rfl k) ?_
      refine own_go (B := (T73.setTop (mkF m 318 #[iv p0, iv p1, iv (0 : Int32), iv (0 : Int32), iv (2 : Int32), rv a2, rv a46, iv (1 : Int32), rv b64, iv (0 : Int32)] [(.int (3 : Int32)), (.int (0 : Int32))]))) (fun t k => own_iconst (v := (3 : Int32)) X73.here hx rfl (hb hby at_317) (by decide) k) ?_
      have hc318 : (0 : Int32) < (3 : Int32) := (by decide)
      refine own_icmpY X73 hx (hb hby at_318) (pc' := 360) (by decide) (by decide) hc318 ?_
      refine own_go (B := (T73.setTop (mkF m 362 #[iv p0, iv p1, iv (0 : Int32), iv (0 : Int32), iv (2 : Int32), rv a2, rv a46, iv (1 : Int32), rv b64, iv (0 : Int32)] [(.int (1 : Int32))]))) (fun t k => XS.iload X73.here hx rfl (hb hby at_360) rfl k) ?_
      exact own_retWZ X73 hx hlk hS64 (by rw [e73]; exact hk64) Bd.returns (hb hby at_362) (by decide) (own_b rfl) (own_b rfl) (Q := (own_law_Q Z p0 p1 zz zm h0 n0)) ⟨rfl, N73⟩
    · obtain rfl : pe = (3 : Int32) := hpe.trans (by decide)
      refine own_go (B := (T64.setTop (mkF m 161 #[iv p0, iv p1, iv (1 : Int32), iv (0 : Int32), iv (2 : Int32), rv a2, rv a46, iv (1 : Int32), rv b64, .unset] []))) (fun t k => XS.astore X64.here hx rfl (hb hby at_159) rfl rfl (l' := #[iv p0, iv p1, iv (1 : Int32), iv (0 : Int32), iv (2 : Int32), rv a2, rv a46, iv (1 : Int32), rv b64, .unset]) rfl k) ?_
      refine own_go (B := (T64.setTop (mkF m 163 #[iv p0, iv p1, iv (1 : Int32), iv (0 : Int32), iv (2 : Int32), rv a2, rv a46, iv (1 : Int32), rv b64, .unset] [(.int (1 : Int32))]))) (fun t k => XS.iload X64.here hx rfl (hb hby at_161) rfl k) ?_
      have hc163 : ¬ (1 : Int32) = (0 : Int32) := (by decide)
      refine own_ifN X64 hx (hb hby at_163) (pn := 166) rfl hc163 ?_
      refine own_go (B := (T64.setTop (mkF m 168 #[iv p0, iv p1, iv (1 : Int32), iv (0 : Int32), iv (2 : Int32), rv a2, rv a46, iv (1 : Int32), rv b64, .unset] [(.ref a46)]))) (fun t k => XS.aload X64.here hx rfl (hb hby at_166) rfl rfl k) ?_
      obtain ⟨cq74, kq74, qa74, qb74, qc74⟩ := isOf hZ64 rfl Exo64
      obtain ⟨_, _, ⟨T74, L74, k74, n74⟩, -, X74, ⟨Lc74, hQ74, l74, yy74, zz74⟩, st74⟩ := X64.virtualBack hx (y := own_y17) (z := own_y17) ho64 (mvT hZ64 w_20) (mvT hZ64 w_21) (notFace_of_selects (args := #[]) (mvT hZ64 w_23)) (mvT hZ64 w_23) (mvT hZ64 w_22) (by decide) (backOf (W := 0) (own_ae l Z a0 hw [] a46 (3 : Int32) (8 : Int32) T64.heap n0 gpo64 geo64) hZ64 w_24 w_4 (by decide) (by decide)) qa74 qc74 (g := (mkF m 168 #[iv p0, iv p1, iv (1 : Int32), iv (0 : Int32), iv (2 : Int32), rv a2, rv a46, iv (1 : Int32), rv b64, .unset] [(.ref a46)])) rfl (by rw [hml]; rfl) (Steps.refl _) (argsL := []) (rest := []) (lenOf own_pd12 rfl) rfl (by show 2 * 0 + _ ≤ _; exact own_b rfl) (hb hby at_168) (fun _ _ => ⟨rfl, rfl, (own_b rfl : 5 + 0 ≤ _), (own_b rfl : 50 + 0 ≤ _)⟩)
      dsimp only [Pt.U, Pt.locs, Pt.cells, Pt.slots] at X74 l74 yy74 zz74 st74 hQ74
      obtain ⟨rfl, Nq74, eq74⟩ := hQ74
      obtain ⟨L74, X74, N74⟩ := own_absC (K := 5) (K' := 50) X74 l74 yy74 zz74 N64 Nq74
      have e74 : T74.heap = T64.heap := eq74
      refine own_tr (B := (T74.setTop (mkF m 171 #[iv p0, iv p1, iv (1 : Int32), iv (0 : Int32), iv (2 : Int32), rv a2, rv a46, iv (1 : Int32), rv b64, .unset] [(.int (own_eqr (3 : Int32) (8 : Int32)))]))) st74 ?_
      rw [show own_eqr (3 : Int32) (8 : Int32) = (0 : Int32) from by decide]
      refine own_go (B := (T74.setTop (mkF m 172 #[iv p0, iv p1, iv (1 : Int32), iv (0 : Int32), iv (2 : Int32), rv a2, rv a46, iv (1 : Int32), rv b64, .unset] [(.int (1 : Int32)), (.int (0 : Int32))]))) (fun t k => XS.iloadN X74.here hx rfl (hb hby at_171) rfl k) ?_
      refine own_go (B := (T74.setTop (mkF m 174 #[iv p0, iv p1, iv (1 : Int32), iv (0 : Int32), iv (2 : Int32), rv a2, rv a46, iv (1 : Int32), rv b64, .unset] [(.int (6 : Int32)), (.int (1 : Int32)), (.int (0 : Int32))]))) (fun t k => own_bipush (v := (6 : Int32)) X74.here hx rfl (hb hby at_172) (by decide) k) ?_
      have hc174 : ¬ (1 : Int32) = (6 : Int32) := (by decide)
      refine own_icmpY X74 hx (hb hby at_174) (pc' := 181) (by decide) (by decide) hc174 ?_
      refine own_go (B := (T74.setTop (mkF m 182 #[iv p0, iv p1, iv (1 : Int32), iv (0 : Int32), iv (2 : Int32), rv a2, rv a46, iv (1 : Int32), rv b64, .unset] [(.int (0 : Int32)), (.int (0 : Int32))]))) (fun t k => own_iconst (v := (0 : Int32)) X74.here hx rfl (hb hby at_181) (by decide) k) ?_
      have hc182 : (0 : Int32) = (0 : Int32) := (by decide)
      refine own_icmpN X74 hx (hb hby at_182) (pn := 185) rfl hc182 ?_
      refine own_go (B := (T74.setTop (mkF m 186 #[iv p0, iv p1, iv (1 : Int32), iv (0 : Int32), iv (2 : Int32), rv a2, rv a46, iv (1 : Int32), rv b64, .unset] [(.int (1 : Int32))]))) (fun t k => own_iconst (v := (1 : Int32)) X74.here hx rfl (hb hby at_185) (by decide) k) ?_
      refine own_go (B := (T74.setTop (mkF m 190 #[iv p0, iv p1, iv (1 : Int32), iv (0 : Int32), iv (2 : Int32), rv a2, rv a46, iv (1 : Int32), rv b64, .unset] [(.int (1 : Int32))]))) (fun t k => XS.goto X74.here hx rfl (pc0 := 186) (pc' := 190) rfl (hb hby at_186) (by decide) (by decide) k) ?_
      refine own_go (B := (T74.setTop (mkF m 192 #[iv p0, iv p1, iv (1 : Int32), iv (0 : Int32), iv (2 : Int32), rv a2, rv a46, iv (1 : Int32), rv b64, .unset] []))) (fun t k => XS.istore X74.here hx rfl (hb hby at_190) rfl (l' := #[iv p0, iv p1, iv (1 : Int32), iv (0 : Int32), iv (2 : Int32), rv a2, rv a46, iv (1 : Int32), rv b64, .unset]) rfl k) ?_
      refine own_go (B := (T74.setTop (mkF m 194 #[iv p0, iv p1, iv (1 : Int32), iv (0 : Int32), iv (2 : Int32), rv a2, rv a46, iv (1 : Int32), rv b64, .unset] [(.int (1 : Int32))]))) (fun t k => XS.iload X74.here hx rfl (hb hby at_192) rfl k) ?_
      have hc194 : ¬ (1 : Int32) = (0 : Int32) := (by decide)
      refine own_ifN X74 hx (hb hby at_194) (pn := 197) rfl hc194 ?_
      refine own_go (B := (T74.setTop (mkF m 199 #[iv p0, iv p1, iv (1 : Int32), iv (0 : Int32), iv (2 : Int32), rv a2, rv a46, iv (1 : Int32), rv b64, .unset] [(.ref b64)]))) (fun t k => XS.aload X74.here hx rfl (hb hby at_197) rfl rfl k) ?_
      obtain ⟨cq75, kq75, qa75, qb75, qc75⟩ := isOf hZ64 e74 Exi64
      obtain ⟨_, _, ⟨T75, L75, k75, n75⟩, -, X75, ⟨Lc75, hQ75, l75, yy75, zz75⟩, st75⟩ := X74.virtualBack hx (y := own_y17) (z := own_y17) ho64 (mvT hZ64 w_20) (mvT hZ64 w_21) (notFace_of_selects (args := #[]) (mvT hZ64 w_23)) (mvT hZ64 w_23) (mvT hZ64 w_22) (by decide) (backOf (W := 0) (own_ae l Z a0 hw [] b64 (2 : Int32) (3 : Int32) T64.heap n0 gpi64 gei64) hZ64 w_24 w_4 (by decide) (by decide)) qa75 qc75 (g := (mkF m 199 #[iv p0, iv p1, iv (1 : Int32), iv (0 : Int32), iv (2 : Int32), rv a2, rv a46, iv (1 : Int32), rv b64, .unset] [(.ref b64)])) rfl (by rw [hml]; rfl) (Steps.refl _) (argsL := []) (rest := []) (lenOf own_pd12 rfl) rfl (by show 2 * 0 + _ ≤ _; exact own_b rfl) (hb hby at_199) (fun _ _ => ⟨rfl, e74, (own_b rfl : 5 + 0 ≤ _), (own_b rfl : 50 + 0 ≤ _)⟩)
      dsimp only [Pt.U, Pt.locs, Pt.cells, Pt.slots] at X75 l75 yy75 zz75 st75 hQ75
      obtain ⟨rfl, Nq75, eq75⟩ := hQ75
      obtain ⟨L75, X75, N75⟩ := own_absC (K := 5) (K' := 50) X75 l75 yy75 zz75 N74 Nq75
      have e75 : T75.heap = T64.heap := eq75
      refine own_tr (B := (T75.setTop (mkF m 202 #[iv p0, iv p1, iv (1 : Int32), iv (0 : Int32), iv (2 : Int32), rv a2, rv a46, iv (1 : Int32), rv b64, .unset] [(.int (own_eqr (2 : Int32) (3 : Int32)))]))) st75 ?_
      rw [show own_eqr (2 : Int32) (3 : Int32) = (0 : Int32) from by decide]
      refine own_go (B := (T75.setTop (mkF m 203 #[iv p0, iv p1, iv (1 : Int32), iv (0 : Int32), iv (2 : Int32), rv a2, rv a46, iv (1 : Int32), rv b64, .unset] [(.int (1 : Int32)), (.int (0 : Int32))]))) (fun t k => XS.iloadN X75.here hx rfl (hb hby at_202) rfl k) ?_
      have hc203 : ¬ (1 : Int32) = (0 : Int32) := (by decide)
      refine own_ifY X75 hx (hb hby at_203) (pc' := 210) (by decide) (by decide) hc203 ?_
      refine own_go (B := (T75.setTop (mkF m 211 #[iv p0, iv p1, iv (1 : Int32), iv (0 : Int32), iv (2 : Int32), rv a2, rv a46, iv (1 : Int32), rv b64, .unset] [(.int (0 : Int32)), (.int (0 : Int32))]))) (fun t k => own_iconst (v := (0 : Int32)) X75.here hx rfl (hb hby at_210) (by decide) k) ?_
      have hc211 : (0 : Int32) = (0 : Int32) := (by decide)
      refine own_icmpN X75 hx (hb hby at_211) (pn := 214) rfl hc211 ?_
      refine own_go (B := (T75.setTop (mkF m 215 #[iv p0, iv p1, iv (1 : Int32), iv (0 : Int32), iv (2 : Int32), rv a2, rv a46, iv (1 : Int32), rv b64, .unset] [(.int (1 : Int32))]))) (fun t k => own_iconst (v := (1 : Int32)) X75.here hx rfl (hb hby at_214) (by decide) k) ?_
      refine own_go (B := (T75.setTop (mkF m 219 #[iv p0, iv p1, iv (1 : Int32), iv (0 : Int32), iv (2 : Int32), rv a2, rv a46, iv (1 : Int32), rv b64, .unset] [(.int (1 : Int32))]))) (fun t k => XS.goto X75.here hx rfl (pc0 := 215) (pc' := 219) rfl (hb hby at_215) (by decide) (by decide) k) ?_
      refine own_go (B := (T75.setTop (mkF m 221 #[iv p0, iv p1, iv (1 : Int32), iv (0 : Int32), iv (2 : Int32), rv a2, rv a46, iv (1 : Int32), rv b64, .unset] []))) (fun t k => XS.istore X75.here hx rfl (hb hby at_219) rfl (l' := #[iv p0, iv p1, iv (1 : Int32), iv (0 : Int32), iv (2 : Int32), rv a2, rv a46, iv (1 : Int32), rv b64, .unset]) rfl k) ?_
      refine own_go (B := (T75.setTop (mkF m 222 #[iv p0, iv p1, iv (1 : Int32), iv (0 : Int32), iv (2 : Int32), rv a2, rv a46, iv (1 : Int32), rv b64, .unset] [(.int (1 : Int32))]))) (fun t k => XS.iloadN X75.here hx rfl (hb hby at_221) rfl k) ?_
      refine own_go (B := (T75.setTop (mkF m 224 #[iv p0, iv p1, iv (1 : Int32), iv (0 : Int32), iv (2 : Int32), rv a2, rv a46, iv (1 : Int32), rv b64, .unset] [(.int (2 : Int32)), (.int (1 : Int32))]))) (fun t k => XS.iload X75.here hx rfl (hb hby at_222) rfl k) ?_
      refine own_go (B := (T75.setTop (mkF m 225 #[iv p0, iv p1, iv (1 : Int32), iv (0 : Int32), iv (2 : Int32), rv a2, rv a46, iv (1 : Int32), rv b64, .unset] [(.int ((1 : Int32) / (2 : Int32)))]))) (fun t k => XS.idiv (x := (1 : Int32)) (y := (2 : Int32)) X75.here hx rfl (hb hby at_224) rfl (by decide) k) ?_
      rw [show ((1 : Int32) / (2 : Int32)) = (0 : Int32) from by decide]
      refine own_go (B := (T75.setTop (mkF m 227 #[iv p0, iv p1, iv (1 : Int32), iv (0 : Int32), iv (2 : Int32), rv a2, rv a46, iv (1 : Int32), rv b64, iv (0 : Int32)] []))) (fun t k => XS.istore X75.here hx rfl (hb hby at_225) rfl (l' := #[iv p0, iv p1, iv (1 : Int32), iv (0 : Int32), iv (2 : Int32), rv a2, rv a46, iv (1 : Int32), rv b64, iv (0 : Int32)]) rfl k) ?_
      refine own_go (B := (T75.setTop (mkF m 229 #[iv p0, iv p1, iv (1 : Int32), iv (0 : Int32), iv (2 : Int32), rv a2, rv a46, iv (1 : Int32), rv b64, iv (0 : Int32)] [(.int (0 : Int32))]))) (fun t k => XS.iload X75.here hx rfl (hb hby at_227) rfl k) ?_
      refine own_go (B := (T75.setTop (mkF m 230 #[iv p0, iv p1, iv (1 : Int32), iv (0 : Int32), iv (2 : Int32), rv a2, rv a46, iv (1 : Int32), rv b64, iv (0 : Int32)] [(.int (1 : Int32)), (.int (0 : Int32))]))) (fun t k => own_iconst (v := (1 : Int32)) X75.here hx rfl (hb hby at_229) (by decide) k) ?_
      have hc230 : (0 : Int32) < (1 : Int32) := (by decide)
      refine own_icmpY X75 hx (hb hby at_230) (pc' := 270) (by decide) (by decide) hc230 ?_
      refine own_go (B := (T75.setTop (mkF m 272 #[iv p0, iv p1, iv (1 : Int32), iv (0 : Int32), iv (2 : Int32), rv a2, rv a46, iv (1 : Int32), rv b64, iv (0 : Int32)] [(.int (0 : Int32))]))) (fun t k => XS.iload X75.here hx rfl (hb hby at_270) rfl k) ?_
      refine own_go (B := (T75.setTop (mkF m 273 #[iv p0, iv p1, iv (1 : Int32), iv (0 : Int32), iv (2 : Int32), rv a2, rv a46, iv (1 : Int32), rv b64, iv (0 : Int32)] [(.int (2 : Int32)), (.int (0 : Int32))]))) (fun t k => own_iconst (v := (2 : Int32)) X75.here hx rfl (hb hby at_272) (by decide) k) ?_
      have hc273 : (0 : Int32) < (2 : Int32) := (by decide)
      refine own_icmpY X75 hx (hb hby at_273) (pc' := 315) (by decide) (by decide) hc273 ?_
      refine own_go (B := (T75.setTop (mkF m 317 #[iv p0, iv p1, iv (1 : Int32), iv (0 : Int32), iv (2 : Int32), rv a2, rv a46, iv (1 : Int32), rv b64, iv (0 : Int32)] [(.int (0 : Int32))]))) (fun t k => XS.iload X75.here hx rfl (hb hby at_315) rfl k) ?_
      refine own_go (B := (T75.setTop (mkF m 318 #[iv p0, iv p1, iv (1 : Int32), iv (0 : Int32), iv (2 : Int32), rv a2, rv a46, iv (1 : Int32), rv b64, iv (0 : Int32)] [(.int (3 : Int32)), (.int (0 : Int32))]))) (fun t k => own_iconst (v := (3 : Int32)) X75.here hx rfl (hb hby at_317) (by decide) k) ?_
      have hc318 : (0 : Int32) < (3 : Int32) := (by decide)
      refine own_icmpY X75 hx (hb hby at_318) (pc' := 360) (by decide) (by decide) hc318 ?_
      refine own_go (B := (T75.setTop (mkF m 362 #[iv p0, iv p1, iv (1 : Int32), iv (0 : Int32), iv (2 : Int32), rv a2, rv a46, iv (1 : Int32), rv b64, iv (0 : Int32)] [(.int (1 : Int32))]))) (fun t k => XS.iload X75.here hx rfl (hb hby at_360) rfl k) ?_
      exact own_retWZ X75 hx hlk hS64 (by rw [e75]; exact hk64) Bd.returns (hb hby at_362) (by decide) (own_b rfl) (own_b rfl) (Q := (own_law_Q Z p0 p1 zz zm h0 n0)) ⟨rfl, N75⟩
    · obtain rfl : pe = (4 : Int32) := hpe.trans (by decide)
      refine own_go (B := (T64.setTop (mkF m 161 #[iv p0, iv p1, iv (2 : Int32), iv (0 : Int32), iv (2 : Int32), rv a2, rv a46, iv (1 : Int32), rv b64, .unset] []))) (fun t k => XS.astore X64.here hx rfl (hb hby at_159) rfl rfl (l' := #[iv p0, iv p1, iv (2 : Int32), iv (0 : Int32), iv (2 : Int32), rv a2, rv a46, iv (1 : Int32), rv b64, .unset]) rfl k) ?_
      refine own_go (B := (T64.setTop (mkF m 163 #[iv p0, iv p1, iv (2 : Int32), iv (0 : Int32), iv (2 : Int32), rv a2, rv a46, iv (1 : Int32), rv b64, .unset] [(.int (1 : Int32))]))) (fun t k => XS.iload X64.here hx rfl (hb hby at_161) rfl k) ?_
      have hc163 : ¬ (1 : Int32) = (0 : Int32) := (by decide)
      refine own_ifN X64 hx (hb hby at_163) (pn := 166) rfl hc163 ?_
      refine own_go (B := (T64.setTop (mkF m 168 #[iv p0, iv p1, iv (2 : Int32), iv (0 : Int32), iv (2 : Int32), rv a2, rv a46, iv (1 : Int32), rv b64, .unset] [(.ref a46)]))) (fun t k => XS.aload X64.here hx rfl (hb hby at_166) rfl rfl k) ?_
      obtain ⟨cq76, kq76, qa76, qb76, qc76⟩ := isOf hZ64 rfl Exo64
      obtain ⟨_, _, ⟨T76, L76, k76, n76⟩, -, X76, ⟨Lc76, hQ76, l76, yy76, zz76⟩, st76⟩ := X64.virtualBack hx (y := own_y17) (z := own_y17) ho64 (mvT hZ64 w_20) (mvT hZ64 w_21) (notFace_of_selects (args := #[]) (mvT hZ64 w_23)) (mvT hZ64 w_23) (mvT hZ64 w_22) (by decide) (backOf (W := 0) (own_ae l Z a0 hw [] a46 (4 : Int32) (8 : Int32) T64.heap n0 gpo64 geo64) hZ64 w_24 w_4 (by decide) (by decide)) qa76 qc76 (g := (mkF m 168 #[iv p0, iv p1, iv (2 : Int32), iv (0 : Int32), iv (2 : Int32), rv a2, rv a46, iv (1 : Int32), rv b64, .unset] [(.ref a46)])) rfl (by rw [hml]; rfl) (Steps.refl _) (argsL := []) (rest := []) (lenOf own_pd12 rfl) rfl (by show 2 * 0 + _ ≤ _; exact own_b rfl) (hb hby at_168) (fun _ _ => ⟨rfl, rfl, (own_b rfl : 5 + 0 ≤ _), (own_b rfl : 50 + 0 ≤ _)⟩)
      dsimp only [Pt.U, Pt.locs, Pt.cells, Pt.slots] at X76 l76 yy76 zz76 st76 hQ76
      obtain ⟨rfl, Nq76, eq76⟩ := hQ76
      obtain ⟨L76, X76, N76⟩ := own_absC (K := 5) (K' := 50) X76 l76 yy76 zz76 N64 Nq76
      have e76 : T76.heap = T64.heap := eq76
      refine own_tr (B := (T76.setTop (mkF m 171 #[iv p0, iv p1, iv (2 : Int32), iv (0 : Int32), iv (2 : Int32), rv a2, rv a46, iv (1 : Int32), rv b64, .unset] [(.int (own_eqr (4 : Int32) (8 : Int32)))]))) st76 ?_
      rw [show own_eqr (4 : Int32) (8 : Int32) = (0 : Int32) from by decide]
      refine own_go (B := (T76.setTop (mkF m 172 #[iv p0, iv p1, iv (2 : Int32), iv (0 : Int32), iv (2 : Int32), rv a2, rv a46, iv (1 : Int32), rv b64, .unset] [(.int (2 : Int32)), (.int (0 : Int32))]))) (fun t k => XS.iloadN X76.here hx rfl (hb hby at_171) rfl k) ?_
      refine own_go (B := (T76.setTop (mkF m 174 #[iv p0, iv p1, iv (2 : Int32), iv (0 : Int32), iv (2 : Int32), rv a2, rv a46, iv (1 : Int32), rv b64, .unset] [(.int (6 : Int32)), (.int (2 : Int32)), (.int (0 : Int32))]))) (fun t k => own_bipush (v := (6 : Int32)) X76.here hx rfl (hb hby at_172) (by decide) k) ?_
      have hc174 : ¬ (2 : Int32) = (6 : Int32) := (by decide)
      refine own_icmpY X76 hx (hb hby at_174) (pc' := 181) (by decide) (by decide) hc174 ?_
      refine own_go (B := (T76.setTop (mkF m 182 #[iv p0, iv p1, iv (2 : Int32), iv (0 : Int32), iv (2 : Int32), rv a2, rv a46, iv (1 : Int32), rv b64, .unset] [(.int (0 : Int32)), (.int (0 : Int32))]))) (fun t k => own_iconst (v := (0 : Int32)) X76.here hx rfl (hb hby at_181) (by decide) k) ?_
      have hc182 : (0 : Int32) = (0 : Int32) := (by decide)
      refine own_icmpN X76 hx (hb hby at_182) (pn := 185) rfl hc182 ?_
      refine own_go (B := (T76.setTop (mkF m 186 #[iv p0, iv p1, iv (2 : Int32), iv (0 : Int32), iv (2 : Int32), rv a2, rv a46, iv (1 : Int32), rv b64, .unset] [(.int (1 : Int32))]))) (fun t k => own_iconst (v := (1 : Int32)) X76.here hx rfl (hb hby at_185) (by decide) k) ?_
      refine own_go (B := (T76.setTop (mkF m 190 #[iv p0, iv p1, iv (2 : Int32), iv (0 : Int32), iv (2 : Int32), rv a2, rv a46, iv (1 : Int32), rv b64, .unset] [(.int (1 : Int32))]))) (fun t k => XS.goto X76.here hx rfl (pc0 := 186) (pc' := 190) rfl (hb hby at_186) (by decide) (by decide) k) ?_
      refine own_go (B := (T76.setTop (mkF m 192 #[iv p0, iv p1, iv (2 : Int32), iv (0 : Int32), iv (2 : Int32), rv a2, rv a46, iv (1 : Int32), rv b64, .unset] []))) (fun t k => XS.istore X76.here hx rfl (hb hby at_190) rfl (l' := #[iv p0, iv p1, iv (2 : Int32), iv (0 : Int32), iv (2 : Int32), rv a2, rv a46, iv (1 : Int32), rv b64, .unset]) rfl k) ?_
      refine own_go (B := (T76.setTop (mkF m 194 #[iv p0, iv p1, iv (2 : Int32), iv (0 : Int32), iv (2 : Int32), rv a2, rv a46, iv (1 : Int32), rv b64, .unset] [(.int (1 : Int32))]))) (fun t k => XS.iload X76.here hx rfl (hb hby at_192) rfl k) ?_
      have hc194 : ¬ (1 : Int32) = (0 : Int32) := (by decide)
      refine own_ifN X76 hx (hb hby at_194) (pn := 197) rfl hc194 ?_
      refine own_go (B := (T76.setTop (mkF m 199 #[iv p0, iv p1, iv (2 : Int32), iv (0 : Int32), iv (2 : Int32), rv a2, rv a46, iv (1 : Int32), rv b64, .unset] [(.ref b64)]))) (fun t k => XS.aload X76.here hx rfl (hb hby at_197) rfl rfl k) ?_
      obtain ⟨cq77, kq77, qa77, qb77, qc77⟩ := isOf hZ64 e76 Exi64
      obtain ⟨_, _, ⟨T77, L77, k77, n77⟩, -, X77, ⟨Lc77, hQ77, l77, yy77, zz77⟩, st77⟩ := X76.virtualBack hx (y := own_y17) (z := own_y17) ho64 (mvT hZ64 w_20) (mvT hZ64 w_21) (notFace_of_selects (args := #[]) (mvT hZ64 w_23)) (mvT hZ64 w_23) (mvT hZ64 w_22) (by decide) (backOf (W := 0) (own_ae l Z a0 hw [] b64 (2 : Int32) (4 : Int32) T64.heap n0 gpi64 gei64) hZ64 w_24 w_4 (by decide) (by decide)) qa77 qc77 (g := (mkF m 199 #[iv p0, iv p1, iv (2 : Int32), iv (0 : Int32), iv (2 : Int32), rv a2, rv a46, iv (1 : Int32), rv b64, .unset] [(.ref b64)])) rfl (by rw [hml]; rfl) (Steps.refl _) (argsL := []) (rest := []) (lenOf own_pd12 rfl) rfl (by show 2 * 0 + _ ≤ _; exact own_b rfl) (hb hby at_199) (fun _ _ => ⟨rfl, e76, (own_b rfl : 5 + 0 ≤ _), (own_b rfl : 50 + 0 ≤ _)⟩)
      dsimp only [Pt.U, Pt.locs, Pt.cells, Pt.slots] at X77 l77 yy77 zz77 st77 hQ77
      obtain ⟨rfl, Nq77, eq77⟩ := hQ77
      obtain ⟨L77, X77, N77⟩ := own_absC (K := 5) (K' := 50) X77 l77 yy77 zz77 N76 Nq77
      have e77 : T77.heap = T64.heap := eq77
      refine own_tr (B := (T77.setTop (mkF m 202 #[iv p0, iv p1, iv (2 : Int32), iv (0 : Int32), iv (2 : Int32), rv a2, rv a46, iv (1 : Int32), rv b64, .unset] [(.int (own_eqr (2 : Int32) (4 : Int32)))]))) st77 ?_
      rw [show own_eqr (2 : Int32) (4 : Int32) = (0 : Int32) from by decide]
      refine own_go (B := (T77.setTop (mkF m 203 #[iv p0, iv p1, iv (2 : Int32), iv (0 : Int32), iv (2 : Int32), rv a2, rv a46, iv (1 : Int32), rv b64, .unset] [(.int (2 : Int32)), (.int (0 : Int32))]))) (fun t k => XS.iloadN X77.here hx rfl (hb hby at_202) rfl k) ?_
      have hc203 : ¬ (2 : Int32) = (0 : Int32) := (by decide)
      refine own_ifY X77 hx (hb hby at_203) (pc' := 210) (by decide) (by decide) hc203 ?_
      refine own_go (B := (T77.setTop (mkF m 211 #[iv p0, iv p1, iv (2 : Int32), iv (0 : Int32), iv (2 : Int32), rv a2, rv a46, iv (1 : Int32), rv b64, .unset] [(.int (0 : Int32)), (.int (0 : Int32))]))) (fun t k => own_iconst (v := (0 : Int32)) X77.here hx rfl (hb hby at_210) (by decide) k) ?_
      have hc211 : (0 : Int32) = (0 : Int32) := (by decide)
      refine own_icmpN X77 hx (hb hby at_211) (pn := 214) rfl hc211 ?_
      refine own_go (B := (T77.setTop (mkF m 215 #[iv p0, iv p1, iv (2 : Int32), iv (0 : Int32), iv (2 : Int32), rv a2, rv a46, iv (1 : Int32), rv b64, .unset] [(.int (1 : Int32))]))) (fun t k => own_iconst (v := (1 : Int32)) X77.here hx rfl (hb hby at_214) (by decide) k) ?_
      refine own_go (B := (T77.setTop (mkF m 219 #[iv p0, iv p1, iv (2 : Int32), iv (0 : Int32), iv (2 : Int32), rv a2, rv a46, iv (1 : Int32), rv b64, .unset] [(.int (1 : Int32))]))) (fun t k => XS.goto X77.here hx rfl (pc0 := 215) (pc' := 219) rfl (hb hby at_215) (by decide) (by decide) k) ?_
      refine own_go (B := (T77.setTop (mkF m 221 #[iv p0, iv p1, iv (2 : Int32), iv (0 : Int32), iv (2 : Int32), rv a2, rv a46, iv (1 : Int32), rv b64, .unset] []))) (fun t k => XS.istore X77.here hx rfl (hb hby at_219) rfl (l' := #[iv p0, iv p1, iv (2 : Int32), iv (0 : Int32), iv (2 : Int32), rv a2, rv a46, iv (1 : Int32), rv b64, .unset]) rfl k) ?_
      refine own_go (B := (T77.setTop (mkF m 222 #[iv p0, iv p1, iv (2 : Int32), iv (0 : Int32), iv (2 : Int32), rv a2, rv a46, iv (1 : Int32), rv b64, .unset] [(.int (2 : Int32))]))) (fun t k => XS.iloadN X77.here hx rfl (hb hby at_221) rfl k) ?_
      refine own_go (B := (T77.setTop (mkF m 224 #[iv p0, iv p1, iv (2 : Int32), iv (0 : Int32), iv (2 : Int32), rv a2, rv a46, iv (1 : Int32), rv b64, .unset] [(.int (2 : Int32)), (.int (2 : Int32))]))) (fun t k => XS.iload X77.here hx rfl (hb hby at_222) rfl k) ?_
      refine own_go (B := (T77.setTop (mkF m 225 #[iv p0, iv p1, iv (2 : Int32), iv (0 : Int32), iv (2 : Int32), rv a2, rv a46, iv (1 : Int32), rv b64, .unset] [(.int ((2 : Int32) / (2 : Int32)))]))) (fun t k => XS.idiv (x := (2 : Int32)) (y := (2 : Int32)) X77.here hx rfl (hb hby at_224) rfl (by decide) k) ?_
      rw [show ((2 : Int32) / (2 : Int32)) = (1 : Int32) from by decide]
      refine own_go (B := (T77.setTop (mkF m 227 #[iv p0, iv p1, iv (2 : Int32), iv (0 : Int32), iv (2 : Int32), rv a2, rv a46, iv (1 : Int32), rv b64, iv (1 : Int32)] []))) (fun t k => XS.istore X77.here hx rfl (hb hby at_225) rfl (l' := #[iv p0, iv p1, iv (2 : Int32), iv (0 : Int32), iv (2 : Int32), rv a2, rv a46, iv (1 : Int32), rv b64, iv (1 : Int32)]) rfl k) ?_
      refine own_go (B := (T77.setTop (mkF m 229 #[iv p0, iv p1, iv (2 : Int32), iv (0 : Int32), iv (2 : Int32), rv a2, rv a46, iv (1 : Int32), rv b64, iv (1 : Int32)] [(.int (1 : Int32))]))) (fun t k => XS.iload X77.here hx rfl (hb hby at_227) rfl k) ?_
      refine own_go (B := (T77.setTop (mkF m 230 #[iv p0, iv p1, iv (2 : Int32), iv (0 : Int32), iv (2 : Int32), rv a2, rv a46, iv (1 : Int32), rv b64, iv (1 : Int32)] [(.int (1 : Int32)), (.int (1 : Int32))]))) (fun t k => own_iconst (v := (1 : Int32)) X77.here hx rfl (hb hby at_229) (by decide) k) ?_
      have hc230 : ¬ (1 : Int32) < (1 : Int32) := (by decide)
      refine own_icmpN X77 hx (hb hby at_230) (pn := 233) rfl hc230 ?_
      refine own_go (B := (T77.setTop (mkF m 235 #[iv p0, iv p1, iv (2 : Int32), iv (0 : Int32), iv (2 : Int32), rv a2, rv a46, iv (1 : Int32), rv b64, iv (1 : Int32)] [(.ref b64)]))) (fun t k => XS.aload X77.here hx rfl (hb hby at_233) rfl rfl k) ?_
      refine own_go (B := (T77.setTop (mkF m 236 #[iv p0, iv p1, iv (2 : Int32), iv (0 : Int32), iv (2 : Int32), rv a2, rv a46, iv (1 : Int32), rv b64, iv (1 : Int32)] [(.int (0 : Int32)), (.ref b64)]))) (fun t k => XS.iloadN X77.here hx rfl (hb hby at_235) rfl k) ?_
      obtain ⟨_, _, ⟨T78, L78, k78, n78⟩, -, X78, hs78, hg78, ⟨Lc78, hQ78, l78, yy78, zz78⟩, st78⟩ := callSS X77 hx (y := own_y19) ho64 (mvT hZ64 w_42) (mvT hZ64 w_43) (mvT hZ64 w_44) (mvT hZ64 w_45) (by decide) (backOfS (W := 0) (own_ro0 l Z a0 hw [] b64 a2 (2 : Int32) (4 : Int32) (4 : Int32) (5 : Int32) (0 : Int32) [(.int (48 : Int32)), (.int (2 : Int32)), (.int (5 : Int32)), (.int (0 : Int32)), (.int (5 : Int32)), (.int (0 : Int32)), (.int (5 : Int32)), (.int (0 : Int32))] T64.heap n0 F65 Exi64 gn_b64 gbi64 gpi64 gei64 F67 (by decide) (by decide) (by decide) rfl (by decide) rfl (by decide) (by decide) (by decide) (by decide)) hZ64 w_45 w_44 (by decide) (by decide)) (g := (mkF m 236 #[iv p0, iv p1, iv (2 : Int32), iv (0 : Int32), iv (2 : Int32), rv a2, rv a46, iv (1 : Int32), rv b64, iv (1 : Int32)] [(.int (0 : Int32)), (.ref b64)])) rfl (by rw [hml]; rfl) (argsL := [(.ref b64), (.int (0 : Int32))]) (rest := []) (lenOf own_pd14 rfl) rfl (by show 2 * 0 + _ ≤ _; exact own_b rfl) (hb hby at_236) (fun _ _ => ⟨rfl, e77, (own_b rfl : 5 + 2 ≤ _), (own_b rfl : 50 + 20 ≤ _)⟩)
      dsimp only [Pt.U, Pt.locs, Pt.cells, Pt.slots] at X78 l78 yy78 zz78 st78 hQ78 hs78 hg78
      obtain ⟨rfl, Nq78, K78, Ex78, gb78, gp78, ge78⟩ := hQ78
      obtain ⟨L78, X78, N78⟩ := own_absC (K := 7) (K' := 70) X78 l78 yy78 zz78 N77 Nq78
      have X78 : Stand p l e room_1 (s.setVm T78.vm) m #[(.int p0), (.int p1)] below meth c T78 L78 7 70 := X78
      have hS78 := foldS hS64 (T := T77) (by rw [e77]; exact hk64) hs78 hg78
      have hZ78 : Z.Warmed39 (s.setVm T78.vm).vm := State.Warmed39.trans (t := s.setVm T64.vm) hZ64 hs78.1
      have ho78 : (s.setVm T78.vm).vm.findClass "com/example/honeybee/honeybee/device/DerReaderAtEndPinLaw" = some m.cls := by rw [show (s.setVm T78.vm).vm = T78.vm from rfl, hs78.1.alike.findClass]; exact ho64
      have F79 : n0 ≤ T78.heap.size := Nat.le_trans F65 K78.1
      have F80 := Keep.trans F66 K78 (allS (Or.inr (Nat.le_trans F57.1 gz64)) all0)
      have F81 := own_Ar_keep F67 K78 (ninS (Ne.symm nb64_a2) nin0)
      have F82 := Exa.keep Exo64 K78
      have F83 := Fld.keep gbo64 K78 (ninS (Ne.symm nb64_a46) nin0)
      have F84 := Fld.keep gpo64 K78 (ninS (Ne.symm nb64_a46) nin0)
      have F85 := Fld.keep geo64 K78 (ninS (Ne.symm nb64_a46) nin0)
      have F86 := Exa.keep Exi64 K78
      have hk78 : T78.heap.size ≤ T78.heap.size := Nat.le_refl _
      refine own_tr (B := (T78.setTop (mkF m 239 #[iv p0, iv p1, iv (2 : Int32), iv (0 : Int32), iv (2 : Int32), rv a2, rv a46, iv (1 : Int32), rv b64, iv (1 : Int32)] []))) st78 ?_
      refine own_go (B := (T78.setTop (mkF m 241 #[iv p0, iv p1, iv (2 : Int32), iv (0 : Int32), iv (2 : Int32), rv a2, rv a46, iv (1 : Int32), rv b64, iv (1 : Int32)] [(.int (1 : Int32))]))) (fun t k => XS.iload X78.here hx rfl (hb hby at_239) rfl k) ?_
      have hc241 : ¬ (1 : Int32) = (0 : Int32) := (by decide)
      refine own_ifN X78 hx (hb hby at_241) (pn := 244) rfl hc241 ?_
      refine own_go (B := (T78.setTop (mkF m 246 #[iv p0, iv p1, iv (2 : Int32), iv (0 : Int32), iv (2 : Int32), rv a2, rv a46, iv (1 : Int32), rv b64, iv (1 : Int32)] [(.ref b64)]))) (fun t k => XS.aload X78.here hx rfl (hb hby at_244) rfl rfl k) ?_
      obtain ⟨cq90, kq90, qa90, qb90, qc90⟩ := isOf hZ78 rfl Ex78
      obtain ⟨_, _, ⟨T90, L90, k90, n90⟩, -, X90, ⟨Lc90, hQ90, l90, yy90, zz90⟩, st90⟩ := X78.virtualBack hx (y := own_y17) (z := own_y17) ho78 (mvT hZ78 w_20) (mvT hZ78 w_21) (notFace_of_selects (args := #[]) (mvT hZ78 w_23)) (mvT hZ78 w_23) (mvT hZ78 w_22) (by decide) (backOf (W := 0) (own_ae l Z a0 hw [] b64 (4 : Int32) (4 : Int32) T78.heap n0 gp78 ge78) hZ78 w_24 w_4 (by decide) (by decide)) qa90 qc90 (g := (mkF m 246 #[iv p0, iv p1, iv (2 : Int32), iv (0 : Int32), iv (2 : Int32), rv a2, rv a46, iv (1 : Int32), rv b64, iv (1 : Int32)] [(.ref b64)])) rfl (by rw [hml]; rfl) (Steps.refl _) (argsL := []) (rest := []) (lenOf own_pd12 rfl) rfl (by show 2 * 0 + _ ≤ _; exact own_b rfl) (hb hby at_246) (fun _ _ => ⟨rfl, rfl, (own_b rfl : 7 + 0 ≤ _), (own_b rfl : 70 + 0 ≤ _)⟩)
      dsimp only [Pt.U, Pt.locs, Pt.cells, Pt.slots] at X90 l90 yy90 zz90 st90 hQ90
      obtain ⟨rfl, Nq90, eq90⟩ := hQ90
      obtain ⟨L90, X90, N90⟩ := own_absC (K := 7) (K' := 70) X90 l90 yy90 zz90 N78 Nq90
      have e90 : T90.heap = T78.heap := eq90
      refine own_tr (B := (T90.setTop (mkF m 249 #[iv p0, iv p1, iv (2 : Int32), iv (0 : Int32), iv (2 : Int32), rv a2, rv a46, iv (1 : Int32), rv b64, iv (1 : Int32)] [(.int (own_eqr (4 : Int32) (4 : Int32)))]))) st90 ?_
      rw [show own_eqr (4 : Int32) (4 : Int32) = (1 : Int32) from by decide]
      refine own_go (B := (T90.setTop (mkF m 251 #[iv p0, iv p1, iv (2 : Int32), iv (0 : Int32), iv (2 : Int32), rv a2, rv a46, iv (1 : Int32), rv b64, iv (1 : Int32)] [(.int (2 : Int32)), (.int (1 : Int32))]))) (fun t k => XS.iload X90.here hx rfl (hb hby at_249) rfl k) ?_
      refine own_go (B := (T90.setTop (mkF m 252 #[iv p0, iv p1, iv (2 : Int32), iv (0 : Int32), iv (2 : Int32), rv a2, rv a46, iv (1 : Int32), rv b64, iv (1 : Int32)] [(.int (2 : Int32)), (.int (2 : Int32)), (.int (1 : Int32))]))) (fun t k => XS.iloadN X90.here hx rfl (hb hby at_251) rfl k) ?_
      have hc252 : (2 : Int32) = (2 : Int32) := (by decide)
      refine own_icmpN X90 hx (hb hby at_252) (pn := 255) rfl hc252 ?_
      refine own_go (B := (T90.setTop (mkF m 256 #[iv p0, iv p1, iv (2 : Int32), iv (0 : Int32), iv (2 : Int32), rv a2, rv a46, iv (1 : Int32), rv b64, iv (1 : Int32)] [(.int (1 : Int32)), (.int (1 : Int32))]))) (fun t k => own_iconst (v := (1 : Int32)) X90.here hx rfl (hb hby at_255) (by decide) k) ?_
      refine own_go (B := (T90.setTop (mkF m 260 #[iv p0, iv p1, iv (2 : Int32), iv (0 : Int32), iv (2 : Int32), rv a2, rv a46, iv (1 : Int32), rv b64, iv (1 : Int32)] [(.int (1 : Int32)), (.int (1 : Int32))]))) (fun t k => XS.goto X90.here hx rfl (pc0 := 256) (pc' := 260) rfl (hb hby at_256) (by decide) (by decide) k) ?_
      have hc260 : (1 : Int32) = (1 : Int32) := (by decide)
      refine own_icmpN X90 hx (hb hby at_260) (pn := 263) rfl hc260 ?_
      refine own_go (B := (T90.setTop (mkF m 264 #[iv p0, iv p1, iv (2 : Int32), iv (0 : Int32), iv (2 : Int32), rv a2, rv a46, iv (1 : Int32), rv b64, iv (1 : Int32)] [(.int (1 : Int32))]))) (fun t k => own_iconst (v := (1 : Int32)) X90.here hx rfl (hb hby at_263) (by decide) k) ?_
      refine own_go (B := (T90.setTop (mkF m 268 #[iv p0, iv p1, iv (2 : Int32), iv (0 : Int32), iv (2 : Int32), rv a2, rv a46, iv (1 : Int32), rv b64, iv (1 : Int32)] [(.int (1 : Int32))]))) (fun t k => XS.goto X90.here hx rfl (pc0 := 264) (pc' := 268) rfl (hb hby at_264) (by decide) (by decide) k) ?_
      refine own_go (B := (T90.setTop (mkF m 270 #[iv p0, iv p1, iv (2 : Int32), iv (0 : Int32), iv (2 : Int32), rv a2, rv a46, iv (1 : Int32), rv b64, iv (1 : Int32)] []))) (fun t k => XS.istore X90.here hx rfl (hb hby at_268) rfl (l' := #[iv p0, iv p1, iv (2 : Int32), iv (0 : Int32), iv (2 : Int32), rv a2, rv a46, iv (1 : Int32), rv b64, iv (1 : Int32)]) rfl k) ?_
      refine own_go (B := (T90.setTop (mkF m 272 #[iv p0, iv p1, iv (2 : Int32), iv (0 : Int32), iv (2 : Int32), rv a2, rv a46, iv (1 : Int32), rv b64, iv (1 : Int32)] [(.int (1 : Int32))]))) (fun t k => XS.iload X90.here hx rfl (hb hby at_270) rfl k) ?_
      refine own_go (B := (T90.setTop (mkF m 273 #[iv p0, iv p1, iv (2 : Int32), iv (0 : Int32), iv (2 : Int32), rv a2, rv a46, iv (1 : Int32), rv b64, iv (1 : Int32)] [(.int (2 : Int32)), (.int (1 : Int32))]))) (fun t k => own_iconst (v := (2 : Int32)) X90.here hx rfl (hb hby at_272) (by decide) k) ?_
      have hc273 : (1 : Int32) < (2 : Int32) := (by decide)
      refine own_icmpY X90 hx (hb hby at_273) (pc' := 315) (by decide) (by decide) hc273 ?_
      refine own_go (B := (T90.setTop (mkF m 317 #[iv p0, iv p1, iv (2 : Int32), iv (0 : Int32), iv (2 : Int32), rv a2, rv a46, iv (1 : Int32), rv b64, iv (1 : Int32)] [(.int (1 : Int32))]))) (fun t k => XS.iload X90.here hx rfl (hb hby at_315) rfl k) ?_
      refine own_go (B := (T90.setTop (mkF m 318 #[iv p0, iv p1, iv (2 : Int32), iv (0 : Int32), iv (2 : Int32), rv a2, rv a46, iv (1 : Int32), rv b64, iv (1 : Int32)] [(.int (3 : Int32)), (.int (1 : Int32))]))) (fun t k => own_iconst (v := (3 : Int32)) X90.here hx rfl (hb hby at_317) (by decide) k) ?_
      have hc318 : (1 : Int32) < (3 : Int32) := (by decide)
      refine own_icmpY X90 hx (hb hby at_318) (pc' := 360) (by decide) (by decide) hc318 ?_
      refine own_go (B := (T90.setTop (mkF m 362 #[iv p0, iv p1, iv (2 : Int32), iv (0 : Int32), iv (2 : Int32), rv a2, rv a46, iv (1 : Int32), rv b64, iv (1 : Int32)] [(.int (1 : Int32))]))) (fun t k => XS.iload X90.here hx rfl (hb hby at_360) rfl k) ?_
      exact own_retWZ X90 hx hlk hS78 (by rw [e90]; exact hk78) Bd.returns (hb hby at_362) (by decide) (own_b rfl) (own_b rfl) (Q := (own_law_Q Z p0 p1 zz zm h0 n0)) ⟨rfl, N90⟩
    · obtain rfl : pe = (5 : Int32) := hpe.trans (by decide)
      refine own_go (B := (T64.setTop (mkF m 161 #[iv p0, iv p1, iv (3 : Int32), iv (0 : Int32), iv (2 : Int32), rv a2, rv a46, iv (1 : Int32), rv b64, .unset] []))) (fun t k => XS.astore X64.here hx rfl (hb hby at_159) rfl rfl (l' := #[iv p0, iv p1, iv (3 : Int32), iv (0 : Int32), iv (2 : Int32), rv a2, rv a46, iv (1 : Int32), rv b64, .unset]) rfl k) ?_
      refine own_go (B := (T64.setTop (mkF m 163 #[iv p0, iv p1, iv (3 : Int32), iv (0 : Int32), iv (2 : Int32), rv a2, rv a46, iv (1 : Int32), rv b64, .unset] [(.int (1 : Int32))]))) (fun t k => XS.iload X64.here hx rfl (hb hby at_161) rfl k) ?_
      have hc163 : ¬ (1 : Int32) = (0 : Int32) := (by decide)
      refine own_ifN X64 hx (hb hby at_163) (pn := 166) rfl hc163 ?_
      refine own_go (B := (T64.setTop (mkF m 168 #[iv p0, iv p1, iv (3 : Int32), iv (0 : Int32), iv (2 : Int32), rv a2, rv a46, iv (1 : Int32), rv b64, .unset] [(.ref a46)]))) (fun t k => XS.aload X64.here hx rfl (hb hby at_166) rfl rfl k) ?_
      obtain ⟨cq91, kq91, qa91, qb91, qc91⟩ := isOf hZ64 rfl Exo64
      obtain ⟨_, _, ⟨T91, L91, k91, n91⟩, -, X91, ⟨Lc91, hQ91, l91, yy91, zz91⟩, st91⟩ := X64.virtualBack hx (y := own_y17) (z := own_y17) ho64 (mvT hZ64 w_20) (mvT hZ64 w_21) (notFace_of_selects (args := #[]) (mvT hZ64 w_23)) (mvT hZ64 w_23) (mvT hZ64 w_22) (by decide) (backOf (W := 0) (own_ae l Z a0 hw [] a46 (5 : Int32) (8 : Int32) T64.heap n0 gpo64 geo64) hZ64 w_24 w_4 (by decide) (by decide)) qa91 qc91 (g := (mkF m 168 #[iv p0, iv p1, iv (3 : Int32), iv (0 : Int32), iv (2 : Int32), rv a2, rv a46, iv (1 : Int32), rv b64, .unset] [(.ref a46)])) rfl (by rw [hml]; rfl) (Steps.refl _) (argsL := []) (rest := []) (lenOf own_pd12 rfl) rfl (by show 2 * 0 + _ ≤ _; exact own_b rfl) (hb hby at_168) (fun _ _ => ⟨rfl, rfl, (own_b rfl : 5 + 0 ≤ _), (own_b rfl : 50 + 0 ≤ _)⟩)
      dsimp only [Pt.U, Pt.locs, Pt.cells, Pt.slots] at X91 l91 yy91 zz91 st91 hQ91
      obtain ⟨rfl, Nq91, eq91⟩ := hQ91
      obtain ⟨L91, X91, N91⟩ := own_absC (K := 5) (K' := 50) X91 l91 yy91 zz91 N64 Nq91
      have e91 : T91.heap = T64.heap := eq91
      refine own_tr (B := (T91.setTop (mkF m 171 #[iv p0, iv p1, iv (3 : Int32), iv (0 : Int32), iv (2 : Int32), rv a2, rv a46, iv (1 : Int32), rv b64, .unset] [(.int (own_eqr (5 : Int32) (8 : Int32)))]))) st91 ?_
      rw [show own_eqr (5 : Int32) (8 : Int32) = (0 : Int32) from by decide]
      refine own_go (B := (T91.setTop (mkF m 172 #[iv p0, iv p1, iv (3 : Int32), iv (0 : Int32), iv (2 : Int32), rv a2, rv a46, iv (1 : Int32), rv b64, .unset] [(.int (3 : Int32)), (.int (0 : Int32))]))) (fun t k => XS.iloadN X91.here hx rfl (hb hby at_171) rfl k) ?_
      refine own_go (B := (T91.setTop (mkF m 174 #[iv p0, iv p1, iv (3 : Int32), iv (0 : Int32), iv (2 : Int32), rv a2, rv a46, iv (1 : Int32), rv b64, .unset] [(.int (6 : Int32)), (.int (3 : Int32)), (.int (0 : Int32))]))) (fun t k => own_bipush (v := (6 : Int32)) X91.here hx rfl (hb hby at_172) (by decide) k) ?_
      have hc174 : ¬ (3 : Int32) = (6 : Int32) := (by decide)
      refine own_icmpY X91 hx (hb hby at_174) (pc' := 181) (by decide) (by decide) hc174 ?_
      refine own_go (B := (T91.setTop (mkF m 182 #[iv p0, iv p1, iv (3 : Int32), iv (0 : Int32), iv (2 : Int32), rv a2, rv a46, iv (1 : Int32), rv b64, .unset] [(.int (0 : Int32)), (.int (0 : Int32))]))) (fun t k => own_iconst (v := (0 : Int32)) X91.here hx rfl (hb hby at_181) (by decide) k) ?_
      have hc182 : (0 : Int32) = (0 : Int32) := (by decide)
      refine own_icmpN X91 hx (hb hby at_182) (pn := 185) rfl hc182 ?_
      refine own_go (B := (T91.setTop (mkF m 186 #[iv p0, iv p1, iv (3 : Int32), iv (0 : Int32), iv (2 : Int32), rv a2, rv a46, iv (1 : Int32), rv b64, .unset] [(.int (1 : Int32))]))) (fun t k => own_iconst (v := (1 : Int32)) X91.here hx rfl (hb hby at_185) (by decide) k) ?_
      refine own_go (B := (T91.setTop (mkF m 190 #[iv p0, iv p1, iv (3 : Int32), iv (0 : Int32), iv (2 : Int32), rv a2, rv a46, iv (1 : Int32), rv b64, .unset] [(.int (1 : Int32))]))) (fun t k => XS.goto X91.here hx rfl (pc0 := 186) (pc' := 190) rfl (hb hby at_186) (by decide) (by decide) k) ?_
      refine own_go (B := (T91.setTop (mkF m 192 #[iv p0, iv p1, iv (3 : Int32), iv (0 : Int32), iv (2 : Int32), rv a2, rv a46, iv (1 : Int32), rv b64, .unset] []))) (fun t k => XS.istore X91.here hx rfl (hb hby at_190) rfl (l' := #[iv p0, iv p1, iv (3 : Int32), iv (0 : Int32), iv (2 : Int32), rv a2, rv a46, iv (1 : Int32), rv b64, .unset]) rfl k) ?_
      refine own_go (B := (T91.setTop (mkF m 194 #[iv p0, iv p1, iv (3 : Int32), iv (0 : Int32), iv (2 : Int32), rv a2, rv a46, iv (1 : Int32), rv b64, .unset] [(.int (1 : Int32))]))) (fun t k => XS.iload X91.here hx rfl (hb hby at_192) rfl k) ?_
      have hc194 : ¬ (1 : Int32) = (0 : Int32) := (by decide)
      refine own_ifN X91 hx (hb hby at_194) (pn := 197) rfl hc194 ?_
      refine own_go (B := (T91.setTop (mkF m 199 #[iv p0, iv p1, iv (3 : Int32), iv (0 : Int32), iv (2 : Int32), rv a2, rv a46, iv (1 : Int32), rv b64, .unset] [(.ref b64)]))) (fun t k => XS.aload X91.here hx rfl (hb hby at_197) rfl rfl k) ?_
      obtain ⟨cq92, kq92, qa92, qb92, qc92⟩ := isOf hZ64 e91 Exi64
      obtain ⟨_, _, ⟨T92, L92, k92, n92⟩, -, X92, ⟨Lc92, hQ92, l92, yy92, zz92⟩, st92⟩ := X91.virtualBack hx (y := own_y17) (z := own_y17) ho64 (mvT hZ64 w_20) (mvT hZ64 w_21) (notFace_of_selects (args := #[]) (mvT hZ64 w_23)) (mvT hZ64 w_23) (mvT hZ64 w_22) (by decide) (backOf (W := 0) (own_ae l Z a0 hw [] b64 (2 : Int32) (5 : Int32) T64.heap n0 gpi64 gei64) hZ64 w_24 w_4 (by decide) (by decide)) qa92 qc92 (g := (mkF m 199 #[iv p0, iv p1, iv (3 : Int32), iv (0 : Int32), iv (2 : Int32), rv a2, rv a46, iv (1 : Int32), rv b64, .unset] [(.ref b64)])) rfl (by rw [hml]; rfl) (Steps.refl _) (argsL := []) (rest := []) (lenOf own_pd12 rfl) rfl (by show 2 * 0 + _ ≤ _; exact own_b rfl) (hb hby at_199) (fun _ _ => ⟨rfl, e91, (own_b rfl : 5 + 0 ≤ _), (own_b rfl : 50 + 0 ≤ _)⟩)
      dsimp only [Pt.U, Pt.locs, Pt.cells, Pt.slots] at X92 l92 yy92 zz92 st92 hQ92
      obtain ⟨rfl, Nq92, eq92⟩ := hQ92
      obtain ⟨L92, X92, N92⟩ := own_absC (K := 5) (K' := 50) X92 l92 yy92 zz92 N91 Nq92
      have e92 : T92.heap = T64.heap := eq92
      refine own_tr (B := (T92.setTop (mkF m 202 #[iv p0, iv p1, iv (3 : Int32), iv (0 : Int32), iv (2 : Int32), rv a2, rv a46, iv (1 : Int32), rv b64, .unset] [(.int (own_eqr (2 : Int32) (5 : Int32)))]))) st92 ?_
      rw [show own_eqr (2 : Int32) (5 : Int32) = (0 : Int32) from by decide]
      refine own_go (B := (T92.setTop (mkF m 203 #[iv p0, iv p1, iv (3 : Int32), iv (0 : Int32), iv (2 : Int32), rv a2, rv a46, iv (1 : Int32), rv b64, .unset] [(.int (3 : Int32)), (.int (0 : Int32))]))) (fun t k => XS.iloadN X92.here hx rfl (hb hby at_202) rfl k) ?_
      have hc203 : ¬ (3 : Int32) = (0 : Int32) := (by decide)
      refine own_ifY X92 hx (hb hby at_203) (pc' := 210) (by decide) (by decide) hc203 ?_
      refine own_go (B := (T92.setTop (mkF m 211 #[iv p0, iv p1, iv (3 : Int32), iv (0 : Int32), iv (2 : Int32), rv a2, rv a46, iv (1 : Int32), rv b64, .unset] [(.int (0 : Int32)), (.int (0 : Int32))]))) (fun t k => own_iconst (v := (0 : Int32)) X92.here hx rfl (hb hby at_210) (by decide) k) ?_
      have hc211 : (0 : Int32) = (0 : Int32) := (by decide)
      refine own_icmpN X92 hx (hb hby at_211) (pn := 214) rfl hc211 ?_
      refine own_go (B := (T92.setTop (mkF m 215 #[iv p0, iv p1, iv (3 : Int32), iv (0 : Int32), iv (2 : Int32), rv a2, rv a46, iv (1 : Int32), rv b64, .unset] [(.int (1 : Int32))]))) (fun t k => own_iconst (v := (1 : Int32)) X92.here hx rfl (hb hby at_214) (by decide) k) ?_
      refine own_go (B := (T92.setTop (mkF m 219 #[iv p0, iv p1, iv (3 : Int32), iv (0 : Int32), iv (2 : Int32), rv a2, rv a46, iv (1 : Int32), rv b64, .unset] [(.int (1 : Int32))]))) (fun t k => XS.goto X92.here hx rfl (pc0 := 215) (pc' := 219) rfl (hb hby at_215) (by decide) (by decide) k) ?_
      refine own_go (B := (T92.setTop (mkF m 221 #[iv p0, iv p1, iv (3 : Int32), iv (0 : Int32), iv (2 : Int32), rv a2, rv a46, iv (1 : Int32), rv b64, .unset] []))) (fun t k => XS.istore X92.here hx rfl (hb hby at_219) rfl (l' := #[iv p0, iv p1, iv (3 : Int32), iv (0 : Int32), iv (2 : Int32), rv a2, rv a46, iv (1 : Int32), rv b64, .unset]) rfl k) ?_
      refine own_go (B := (T92.setTop (mkF m 222 #[iv p0, iv p1, iv (3 : Int32), iv (0 : Int32), iv (2 : Int32), rv a2, rv a46, iv (1 : Int32), rv b64, .unset] [(.int (3 : Int32))]))) (fun t k => XS.iloadN X92.here hx rfl (hb hby at_221) rfl k) ?_
      refine own_go (B := (T92.setTop (mkF m 224 #[iv p0, iv p1, iv (3 : Int32), iv (0 : Int32), iv (2 : Int32), rv a2, rv a46, iv (1 : Int32), rv b64, .unset] [(.int (2 : Int32)), (.int (3 : Int32))]))) (fun t k => XS.iload X92.here hx rfl (hb hby at_222) rfl k) ?_
      refine own_go (B := (T92.setTop (mkF m 225 #[iv p0, iv p1, iv (3 : Int32), iv (0 : Int32), iv (2 : Int32), rv a2, rv a46, iv (1 : Int32), rv b64, .unset] [(.int ((3 : Int32) / (2 : Int32)))]))) (fun t k => XS.idiv (x := (3 : Int32)) (y := (2 : Int32)) X92.here hx rfl (hb hby at_224) rfl (by decide) k) ?_
      rw [show ((3 : Int32) / (2 : Int32)) = (1 : Int32) from by decide]
      refine own_go (B := (T92.setTop (mkF m 227 #[iv p0, iv p1, iv (3 : Int32), iv (0 : Int32), iv (2 : Int32), rv a2, rv a46, iv (1 : Int32), rv b64, iv (1 : Int32)] []))) (fun t k => XS.istore X92.here hx rfl (hb hby at_225) rfl (l' := #[iv p0, iv p1, iv (3 : Int32), iv (0 : Int32), iv (2 : Int32), rv a2, rv a46, iv (1 : Int32), rv b64, iv (1 : Int32)]) rfl k) ?_
      refine own_go (B := (T92.setTop (mkF m 229 #[iv p0, iv p1, iv (3 : Int32), iv (0 : Int32), iv (2 : Int32), rv a2, rv a46, iv (1 : Int32), rv b64, iv (1 : Int32)] [(.int (1 : Int32))]))) (fun t k => XS.iload X92.here hx rfl (hb hby at_227) rfl k) ?_
      refine own_go (B := (T92.setTop (mkF m 230 #[iv p0, iv p1, iv (3 : Int32), iv (0 : Int32), iv (2 : Int32), rv a2, rv a46, iv (1 : Int32), rv b64, iv (1 : Int32)] [(.int (1 : Int32)), (.int (1 : Int32))]))) (fun t k => own_iconst (v := (1 : Int32)) X92.here hx rfl (hb hby at_229) (by decide) k) ?_
      have hc230 : ¬ (1 : Int32) < (1 : Int32) := (by decide)
      refine own_icmpN X92 hx (hb hby at_230) (pn := 233) rfl hc230 ?_
      refine own_go (B := (T92.setTop (mkF m 235 #[iv p0, iv p1, iv (3 : Int32), iv (0 : Int32), iv (2 : Int32), rv a2, rv a46, iv (1 : Int32), rv b64, iv (1 : Int32)] [(.ref b64)]))) (fun t k => XS.aload X92.here hx rfl (hb hby at_233) rfl rfl k) ?_
      refine own_go (B := (T92.setTop (mkF m 236 #[iv p0, iv p1, iv (3 : Int32), iv (0 : Int32), iv (2 : Int32), rv a2, rv a46, iv (1 : Int32), rv b64, iv (1 : Int32)] [(.int (0 : Int32)), (.ref b64)]))) (fun t k => XS.iloadN X92.here hx rfl (hb hby at_235) rfl k) ?_
      obtain ⟨_, _, ⟨T93, L93, k93, n93⟩, -, X93, hs93, hg93, ⟨Lc93, hQ93, l93, yy93, zz93⟩, st93⟩ := callSS X92 hx (y := own_y19) ho64 (mvT hZ64 w_42) (mvT hZ64 w_43) (mvT hZ64 w_44) (mvT hZ64 w_45) (by decide) (backOfS (W := 0) (own_ro0 l Z a0 hw [] b64 a2 (2 : Int32) (5 : Int32) (4 : Int32) (5 : Int32) (0 : Int32) [(.int (48 : Int32)), (.int (3 : Int32)), (.int (5 : Int32)), (.int (0 : Int32)), (.int (5 : Int32)), (.int (0 : Int32)), (.int (5 : Int32)), (.int (0 : Int32))] T64.heap n0 F65 Exi64 gn_b64 gbi64 gpi64 gei64 F67 (by decide) (by decide) (by decide) rfl (by decide) rfl (by decide) (by decide) (by decide) (by decide)) hZ64 w_45 w_44 (by decide) (by decide)) (g := (mkF m 236 #[iv p0, iv p1, iv (3 : Int32), iv (0 : Int32), iv (2 : Int32), rv a2, rv a46, iv (1 : Int32), rv b64, iv (1 : Int32)] [(.int (0 : Int32)), (.ref b64)])) rfl (by rw [hml]; rfl) (argsL := [(.ref b64), (.int (0 : Int32))]) (rest := []) (lenOf own_pd14 rfl) rfl (by show 2 * 0 + _ ≤ _; exact own_b rfl) (hb hby at_236) (fun _ _ => ⟨rfl, e92, (own_b rfl : 5 + 2 ≤ _), (own_b rfl : 50 + 20 ≤ _)⟩)
      dsimp only [Pt.U, Pt.locs, Pt.cells, Pt.slots] at X93 l93 yy93 zz93 st93 hQ93 hs93 hg93
      obtain ⟨rfl, Nq93, K93, Ex93, gb93, gp93, ge93⟩ := hQ93
      obtain ⟨L93, X93, N93⟩ := own_absC (K := 7) (K' := 70) X93 l93 yy93 zz93 N92 Nq93
      have X93 : Stand p l e room_1 (s.setVm T93.vm) m #[(.int p0), (.int p1)] below meth c T93 L93 7 70 := X93
      have hS93 := foldS hS64 (T := T92) (by rw [e92]; exact hk64) hs93 hg93
      have hZ93 : Z.Warmed39 (s.setVm T93.vm).vm := State.Warmed39.trans (t := s.setVm T64.vm) hZ64 hs93.1
      have ho93 : (s.setVm T93.vm).vm.findClass "com/example/honeybee/honeybee/device/DerReaderAtEndPinLaw" = some m.cls := by rw [show (s.setVm T93.vm).vm = T93.vm from rfl, hs93.1.alike.findClass]; exact ho64
      have F94 : n0 ≤ T93.heap.size := Nat.le_trans F65 K93.1
      have F95 := Keep.trans F66 K93 (allS (Or.inr (Nat.le_trans F57.1 gz64)) all0)
      have F96 := own_Ar_keep F67 K93 (ninS (Ne.symm nb64_a2) nin0)
      have F97 := Exa.keep Exo64 K93
      have F98 := Fld.keep gbo64 K93 (ninS (Ne.symm nb64_a46) nin0)
      have F99 := Fld.keep gpo64 K93 (ninS (Ne.symm nb64_a46) nin0)
      have F100 := Fld.keep geo64 K93 (ninS (Ne.symm nb64_a46) nin0)
      have F101 := Exa.keep Exi64 K93
      have hk93 : T93.heap.size ≤ T93.heap.size := Nat.le_refl _
      refine own_tr (B := (T93.setTop (mkF m 239 #[iv p0, iv p1, iv (3 : Int32), iv (0 : Int32), iv (2 : Int32), rv a2, rv a46, iv (1 : Int32), rv b64, iv (1 : Int32)] []))) st93 ?_
      refine own_go (B := (T93.setTop (mkF m 241 #[iv p0, iv p1, iv (3 : Int32), iv (0 : Int32), iv (2 : Int32), rv a2, rv a46, iv (1 : Int32), rv b64, iv (1 : Int32)] [(.int (1 : Int32))]))) (fun t k => XS.iload X93.here hx rfl (hb hby at_239) rfl k) ?_
      have hc241 : ¬ (1 : Int32) = (0 : Int32) := (by decide)
      refine own_ifN X93 hx (hb hby at_241) (pn := 244) rfl hc241 ?_
      refine own_go (B := (T93.setTop (mkF m 246 #[iv p0, iv p1, iv (3 : Int32), iv (0 : Int32), iv (2 : Int32), rv a2, rv a46, iv (1 : Int32), rv b64, iv (1 : Int32)] [(.ref b64)]))) (fun t k => XS.aload X93.here hx rfl (hb hby at_244) rfl rfl k) ?_
      obtain ⟨cq105, kq105, qa105, qb105, qc105⟩ := isOf hZ93 rfl Ex93
      obtain ⟨_, _, ⟨T105, L105, k105, n105⟩, -, X105, ⟨Lc105, hQ105, l105, yy105, zz105⟩, st105⟩ := X93.virtualBack hx (y := own_y17) (z := own_y17) ho93 (mvT hZ93 w_20) (mvT hZ93 w_21) (notFace_of_selects (args := #[]) (mvT hZ93 w_23)) (mvT hZ93 w_23) (mvT hZ93 w_22) (by decide) (backOf (W := 0) (own_ae l Z a0 hw [] b64 (4 : Int32) (5 : Int32) T93.heap n0 gp93 ge93) hZ93 w_24 w_4 (by decide) (by decide)) qa105 qc105 (g := (mkF m 246 #[iv p0, iv p1, iv (3 : Int32), iv (0 : Int32), iv (2 : Int32), rv a2, rv a46, iv (1 : Int32), rv b64, iv (1 : Int32)] [(.ref b64)])) rfl (by rw [hml]; rfl) (Steps.refl _) (argsL := []) (rest := []) (lenOf own_pd12 rfl) rfl (by show 2 * 0 + _ ≤ _; exact own_b rfl) (hb hby at_246) (fun _ _ => ⟨rfl, rfl, (own_b rfl : 7 + 0 ≤ _), (own_b rfl : 70 + 0 ≤ _)⟩)
      dsimp only [Pt.U, Pt.locs, Pt.cells, Pt.slots] at X105 l105 yy105 zz105 st105 hQ105
      obtain ⟨rfl, Nq105, eq105⟩ := hQ105
      obtain ⟨L105, X105, N105⟩ := own_absC (K := 7) (K' := 70) X105 l105 yy105 zz105 N93 Nq105
      have e105 : T105.heap = T93.heap := eq105
      refine own_tr (B := (T105.setTop (mkF m 249 #[iv p0, iv p1, iv (3 : Int32), iv (0 : Int32), iv (2 : Int32), rv a2, rv a46, iv (1 : Int32), rv b64, iv (1 : Int32)] [(.int (own_eqr (4 : Int32) (5 : Int32)))]))) st105 ?_
      rw [show own_eqr (4 : Int32) (5 : Int32) = (0 : Int32) from by decide]
      refine own_go (B := (T105.setTop (mkF m 251 #[iv p0, iv p1, iv (3 : Int32), iv (0 : Int32), iv (2 : Int32), rv a2, rv a46, iv (1 : Int32), rv b64, iv (1 : Int32)] [(.int (2 : Int32)), (.int (0 : Int32))]))) (fun t k => XS.iload X105.here hx rfl (hb hby at_249) rfl k) ?_
      refine own_go (B := (T105.setTop (mkF m 252 #[iv p0, iv p1, iv (3 : Int32), iv (0 : Int32), iv (2 : Int32), rv a2, rv a46, iv (1 : Int32), rv b64, iv (1 : Int32)] [(.int (3 : Int32)), (.int (2 : Int32)), (.int (0 : Int32))]))) (fun t k => XS.iloadN X105.here hx rfl (hb hby at_251) rfl k) ?_
      have hc252 : ¬ (2 : Int32) = (3 : Int32) := (by decide)
      refine own_icmpY X105 hx (hb hby at_252) (pc' := 259) (by decide) (by decide) hc252 ?_
      refine own_go (B := (T105.setTop (mkF m 260 #[iv p0, iv p1, iv (3 : Int32), iv (0 : Int32), iv (2 : Int32), rv a2, rv a46, iv (1 : Int32), rv b64, iv (1 : Int32)] [(.int (0 : Int32)), (.int (0 : Int32))]))) (fun t k => own_iconst (v := (0 : Int32)) X105.here hx rfl (hb hby at_259) (by decide) k) ?_
      have hc260 : (0 : Int32) = (0 : Int32) := (by decide)
      refine own_icmpN X105 hx (hb hby at_260) (pn := 263) rfl hc260 ?_
      refine own_go (B := (T105.setTop (mkF m 264 #[iv p0, iv p1, iv (3 : Int32), iv (0 : Int32), iv (2 : Int32), rv a2, rv a46, iv (1 : Int32), rv b64, iv (1 : Int32)] [(.int (1 : Int32))]))) (fun t k => own_iconst (v := (1 : Int32)) X105.here hx rfl (hb hby at_263) (by decide) k) ?_
      refine own_go (B := (T105.setTop (mkF m 268 #[iv p0, iv p1, iv (3 : Int32), iv (0 : Int32), iv (2 : Int32), rv a2, rv a46, iv (1 : Int32), rv b64, iv (1 : Int32)] [(.int (1 : Int32))]))) (fun t k => XS.goto X105.here hx rfl (pc0 := 264) (pc' := 268) rfl (hb hby at_264) (by decide) (by decide) k) ?_
      refine own_go (B := (T105.setTop (mkF m 270 #[iv p0, iv p1, iv (3 : Int32), iv (0 : Int32), iv (2 : Int32), rv a2, rv a46, iv (1 : Int32), rv b64, iv (1 : Int32)] []))) (fun t k => XS.istore X105.here hx rfl (hb hby at_268) rfl (l' := #[iv p0, iv p1, iv (3 : Int32), iv (0 : Int32), iv (2 : Int32), rv a2, rv a46, iv (1 : Int32), rv b64, iv (1 : Int32)]) rfl k) ?_
      refine own_go (B := (T105.setTop (mkF m 272 #[iv p0, iv p1, iv (3 : Int32), iv (0 : Int32), iv (2 : Int32), rv a2, rv a46, iv (1 : Int32), rv b64, iv (1 : Int32)] [(.int (1 : Int32))]))) (fun t k => XS.iload X105.here hx rfl (hb hby at_270) rfl k) ?_
      refine own_go (B := (T105.setTop (mkF m 273 #[iv p0, iv p1, iv (3 : Int32), iv (0 : Int32), iv (2 : Int32), rv a2, rv a46, iv (1 : Int32), rv b64, iv (1 : Int32)] [(.int (2 : Int32)), (.int (1 : Int32))]))) (fun t k => own_iconst (v := (2 : Int32)) X105.here hx rfl (hb hby at_272) (by decide) k) ?_
      have hc273 : (1 : Int32) < (2 : Int32) := (by decide)
      refine own_icmpY X105 hx (hb hby at_273) (pc' := 315) (by decide) (by decide) hc273 ?_
      refine own_go (B := (T105.setTop (mkF m 317 #[iv p0, iv p1, iv (3 : Int32), iv (0 : Int32), iv (2 : Int32), rv a2, rv a46, iv (1 : Int32), rv b64, iv (1 : Int32)] [(.int (1 : Int32))]))) (fun t k => XS.iload X105.here hx rfl (hb hby at_315) rfl k) ?_
      refine own_go (B := (T105.setTop (mkF m 318 #[iv p0, iv p1, iv (3 : Int32), iv (0 : Int32), iv (2 : Int32), rv a2, rv a46, iv (1 : Int32), rv b64, iv (1 : Int32)] [(.int (3 : Int32)), (.int (1 : Int32))]))) (fun t k => own_iconst (v := (3 : Int32)) X105.here hx rfl (hb hby at_317) (by decide) k) ?_
      have hc318 : (1 : Int32) < (3 : Int32) := (by decide)
      refine own_icmpY X105 hx (hb hby at_318) (pc' := 360) (by decide) (by decide) hc318 ?_
      refine own_go (B := (T105.setTop (mkF m 362 #[iv p0, iv p1, iv (3 : Int32), iv (0 : Int32), iv (2 : Int32), rv a2, rv a46, iv (1 : Int32), rv b64, iv (1 : Int32)] [(.int (1 : Int32))]))) (fun t k => XS.iload X105.here hx rfl (hb hby at_360) rfl k) ?_
      exact own_retWZ X105 hx hlk hS93 (by rw [e105]; exact hk93) Bd.returns (hb hby at_362) (by decide) (own_b rfl) (own_b rfl) (Q := (own_law_Q Z p0 p1 zz zm h0 n0)) ⟨rfl, N105⟩
    · obtain rfl : pe = (6 : Int32) := hpe.trans (by decide)
      refine own_go (B := (T64.setTop (mkF m 161 #[iv p0, iv p1, iv (4 : Int32), iv (0 : Int32), iv (2 : Int32), rv a2, rv a46, iv (1 : Int32), rv b64, .unset] []))) (fun t k => XS.astore X64.here hx rfl (hb hby at_159) rfl rfl (l' := #[iv p0, iv p1, iv (4 : Int32), iv (0 : Int32), iv (2 : Int32), rv a2, rv a46, iv (1 : Int32), rv b64, .unset]) rfl k) ?_
      refine own_go (B := (T64.setTop (mkF m 163 #[iv p0, iv p1, iv (4 : Int32), iv (0 : Int32), iv (2 : Int32), rv a2, rv a46, iv (1 : Int32), rv b64, .unset] [(.int (1 : Int32))]))) (fun t k => XS.iload X64.here hx rfl (hb hby at_161) rfl k) ?_
      have hc163 : ¬ (1 : Int32) = (0 : Int32) := (by decide)
      refine own_ifN X64 hx (hb hby at_163) (pn := 166) rfl hc163 ?_
      refine own_go (B := (T64.setTop (mkF m 168 #[iv p0, iv p1, iv (4 : Int32), iv (0 : Int32), iv (2 : Int32), rv a2, rv a46, iv (1 : Int32), rv b64, .unset] [(.ref a46)]))) (fun t k => XS.aload X64.here hx rfl (hb hby at_166) rfl rfl k) ?_
      obtain ⟨cq106, kq106, qa106, qb106, qc106⟩ := isOf hZ64 rfl Exo64
      obtain ⟨_, _, ⟨T106, L106, k106, n106⟩, -, X106, ⟨Lc106, hQ106, l106, yy106, zz106⟩, st106⟩ := X64.virtualBack hx (y := own_y17) (z := own_y17) ho64 (mvT hZ64 w_20) (mvT hZ64 w_21) (notFace_of_selects (args := #[]) (mvT hZ64 w_23)) (mvT hZ64 w_23) (mvT hZ64 w_22) (by decide) (backOf (W := 0) (own_ae l Z a0 hw [] a46 (6 : Int32) (8 : Int32) T64.heap n0 gpo64 geo64) hZ64 w_24 w_4 (by decide) (by decide)) qa106 qc106 (g := (mkF m 168 #[iv p0, iv p1, iv (4 : Int32), iv (0 : Int32), iv (2 : Int32), rv a2, rv a46, iv (1 : Int32), rv b64, .unset] [(.ref a46)])) rfl (by rw [hml]; rfl) (Steps.refl _) (argsL := []) (rest := []) (lenOf own_pd12 rfl) rfl (by show 2 * 0 + _ ≤ _; exact own_b rfl) (hb hby at_168) (fun _ _ => ⟨rfl, rfl, (own_b rfl : 5 + 0 ≤ _), (own_b rfl : 50 + 0 ≤ _)⟩)
      dsimp only [Pt.U, Pt.locs, Pt.cells, Pt.slots] at X106 l106 yy106 zz106 st106 hQ106
      obtain ⟨rfl, Nq106, eq106⟩ := hQ106
      obtain ⟨L106, X106, N106⟩ := own_absC (K := 5) (K' := 50) X106 l106 yy106 zz106 N64 Nq106
      have e106 : T106.heap = T64.heap := eq106
      refine own_tr (B := (T106.setTop (mkF m 171 #[iv p0, iv p1, iv (4 : Int32), iv (0 : Int32), iv (2 : Int32), rv a2, rv a46, iv (1 : Int32), rv b64, .unset] [(.int (own_eqr (6 : Int32) (8 : Int32)))]))) st106 ?_
      rw [show own_eqr (6 : Int32) (8 : Int32) = (0 : Int32) from by decide]
      refine own_go (B := (T106.setTop (mkF m 172 #[iv p0, iv p1, iv (4 : Int32), iv (0 : Int32), iv (2 : Int32), rv a2, rv a46, iv (1 : Int32), rv b64, .unset] [(.int (4 : Int32)), (.int (0 : Int32))]))) (fun t k => XS.iloadN X106.here hx rfl (hb hby at_171) rfl k) ?_
      refine own_go (B := (T106.setTop (mkF m 174 #[iv p0, iv p1, iv (4 : Int32), iv (0 : Int32), iv (2 : Int32), rv a2, rv a46, iv (1 : Int32), rv b64, .unset] [(.int (6 : Int32)), (.int (4 : Int32)), (.int (0 : Int32))]))) (fun t k => own_bipush (v := (6 : Int32)) X106.here hx rfl (hb hby at_172) (by decide) k) ?_
      have hc174 : ¬ (4 : Int32) = (6 : Int32) := (by decide)
      refine own_icmpY X106 hx (hb hby at_174) (pc' := 181) (by decide) (by decide) hc174 ?_
      refine own_go (B := (T106.setTop (mkF m 182 #[iv p0, iv p1, iv (4 : Int32), iv (0 : Int32), iv (2 : Int32), rv a2, rv a46, iv (1 : Int32), rv b64, .unset] [(.int (0 : Int32)), (.int (0 : Int32))]))) (fun t k => own_iconst (v := (0 : Int32)) X106.here hx rfl (hb hby at_181) (by decide) k) ?_
      have hc182 : (0 : Int32) = (0 : Int32) := (by decide)
      refine own_icmpN X106 hx (hb hby at_182) (pn := 185) rfl hc182 ?_
      refine own_go (B := (T106.setTop (mkF m 186 #[iv p0, iv p1, iv (4 : Int32), iv (0 : Int32), iv (2 : Int32), rv a2, rv a46, iv (1 : Int32), rv b64, .unset] [(.int (1 : Int32))]))) (fun t k => own_iconst (v := (1 : Int32)) X106.here hx rfl (hb hby at_185) (by decide) k) ?_
      refine own_go (B := (T106.setTop (mkF m 190 #[iv p0, iv p1, iv (4 : Int32), iv (0 : Int32), iv (2 : Int32), rv a2, rv a46, iv (1 : Int32), rv b64, .unset] [(.int (1 : Int32))]))) (fun t k => XS.goto X106.here hx rfl (pc0 := 186) (pc' := 190) rfl (hb hby at_186) (by decide) (by decide) k) ?_
      refine own_go (B := (T106.setTop (mkF m 192 #[iv p0, iv p1, iv (4 : Int32), iv (0 : Int32), iv (2 : Int32), rv a2, rv a46, iv (1 : Int32), rv b64, .unset] []))) (fun t k => XS.istore X106.here hx rfl (hb hby at_190) rfl (l' := #[iv p0, iv p1, iv (4 : Int32), iv (0 : Int32), iv (2 : Int32), rv a2, rv a46, iv (1 : Int32), rv b64, .unset]) rfl k) ?_
      refine own_go (B := (T106.setTop (mkF m 194 #[iv p0, iv p1, iv (4 : Int32), iv (0 : Int32), iv (2 : Int32), rv a2, rv a46, iv (1 : Int32), rv b64, .unset] [(.int (1 : Int32))]))) (fun t k => XS.iload X106.here hx rfl (hb hby at_192) rfl k) ?_
      have hc194 : ¬ (1 : Int32) = (0 : Int32) := (by decide)
      refine own_ifN X106 hx (hb hby at_194) (pn := 197) rfl hc194 ?_
      refine own_go (B := (T106.setTop (mkF m 199 #[iv p0, iv p1, iv (4 : Int32), iv (0 : Int32), iv (2 : Int32), rv a2, rv a46, iv (1 : Int32), rv b64, .unset] [(.ref b64)]))) (fun t k => XS.aload X106.here hx rfl (hb hby at_197) rfl rfl k) ?_
      obtain ⟨cq107, kq107, qa107, qb107, qc107⟩ := isOf hZ64 e106 Exi64
      obtain ⟨_, _, ⟨T107, L107, k107, n107⟩, -, X107, ⟨Lc107, hQ107, l107, yy107, zz107⟩, st107⟩ := X106.virtualBack hx (y := own_y17) (z := own_y17) ho64 (mvT hZ64 w_20) (mvT hZ64 w_21) (notFace_of_selects (args := #[]) (mvT hZ64 w_23)) (mvT hZ64 w_23) (mvT hZ64 w_22) (by decide) (backOf (W := 0) (own_ae l Z a0 hw [] b64 (2 : Int32) (6 : Int32) T64.heap n0 gpi64 gei64) hZ64 w_24 w_4 (by decide) (by decide)) qa107 qc107 (g := (mkF m 199 #[iv p0, iv p1, iv (4 : Int32), iv (0 : Int32), iv (2 : Int32), rv a2, rv a46, iv (1 : Int32), rv b64, .unset] [(.ref b64)])) rfl (by rw [hml]; rfl) (Steps.refl _) (argsL := []) (rest := []) (lenOf own_pd12 rfl) rfl (by show 2 * 0 + _ ≤ _; exact own_b rfl) (hb hby at_199) (fun _ _ => ⟨rfl, e106, (own_b rfl : 5 + 0 ≤ _), (own_b rfl : 50 + 0 ≤ _)⟩)
      dsimp only [Pt.U, Pt.locs, Pt.cells, Pt.slots] at X107 l107 yy107 zz107 st107 hQ107
      obtain ⟨rfl, Nq107, eq107⟩ := hQ107
      obtain ⟨L107, X107, N107⟩ := own_absC (K := 5) (K' := 50) X107 l107 yy107 zz107 N106 Nq107
      have e107 : T107.heap = T64.heap := eq107
      refine own_tr (B := (T107.setTop (mkF m 202 #[iv p0, iv p1, iv (4 : Int32), iv (0 : Int32), iv (2 : Int32), rv a2, rv a46, iv (1 : Int32), rv b64, .unset] [(.int (own_eqr (2 : Int32) (6 : Int32)))]))) st107 ?_
      rw [show own_eqr (2 : Int32) (6 : Int32) = (0 : Int32) from by decide]
      refine own_go (B := (T107.setTop (mkF m 203 #[iv p0, iv p1, iv (4 : Int32), iv (0 : Int32), iv (2 : Int32), rv a2, rv a46, iv (1 : Int32), rv b64, .unset] [(.int (4 : Int32)), (.int (0 : Int32))]))) (fun t k => XS.iloadN X107.here hx rfl (hb hby at_202) rfl k) ?_
      have hc203 : ¬ (4 : Int32) = (0 : Int32) := (by decide)
      refine own_ifY X107 hx (hb hby at_203) (pc' := 210) (by decide) (by decide) hc203 ?_
      refine own_go (B := (T107.setTop (mkF m 211 #[iv p0, iv p1, iv (4 : Int32), iv (0 : Int32), iv (2 : Int32), rv a2, rv a46, iv (1 : Int32), rv b64, .unset] [(.int (0 : Int32)), (.int (0 : Int32))]))) (fun t k => own_iconst (v := (0 : Int32)) X107.here hx rfl (hb hby at_210) (by decide) k) ?_
      have hc211 : (0 : Int32) = (0 : Int32) := (by decide)
      refine own_icmpN X107 hx (hb hby at_211) (pn := 214) rfl hc211 ?_
      refine own_go (B := (T107.setTop (mkF m 215 #[iv p0, iv p1, iv (4 : Int32), iv (0 : Int32), iv (2 : Int32), rv a2, rv a46, iv (1 : Int32), rv b64, .unset] [(.int (1 : Int32))]))) (fun t k => own_iconst (v := (1 : Int32)) X107.here hx rfl (hb hby at_214) (by decide) k) ?_
      refine own_go (B := (T107.setTop (mkF m 219 #[iv p0, iv p1, iv (4 : Int32), iv (0 : Int32), iv (2 : Int32), rv a2, rv a46, iv (1 : Int32), rv b64, .unset] [(.int (1 : Int32))]))) (fun t k => XS.goto X107.here hx rfl (pc0 := 215) (pc' := 219) rfl (hb hby at_215) (by decide) (by decide) k) ?_
      refine own_go (B := (T107.setTop (mkF m 221 #[iv p0, iv p1, iv (4 : Int32), iv (0 : Int32), iv (2 : Int32), rv a2, rv a46, iv (1 : Int32), rv b64, .unset] []))) (fun t k => XS.istore X107.here hx rfl (hb hby at_219) rfl (l' := #[iv p0, iv p1, iv (4 : Int32), iv (0 : Int32), iv (2 : Int32), rv a2, rv a46, iv (1 : Int32), rv b64, .unset]) rfl k) ?_
      refine own_go (B := (T107.setTop (mkF m 222 #[iv p0, iv p1, iv (4 : Int32), iv (0 : Int32), iv (2 : Int32), rv a2, rv a46, iv (1 : Int32), rv b64, .unset] [(.int (4 : Int32))]))) (fun t k => XS.iloadN X107.here hx rfl (hb hby at_221) rfl k) ?_
      refine own_go (B := (T107.setTop (mkF m 224 #[iv p0, iv p1, iv (4 : Int32), iv (0 : Int32), iv (2 : Int32), rv a2, rv a46, iv (1 : Int32), rv b64, .unset] [(.int (2 : Int32)), (.int (4 : Int32))]))) (fun t k => XS.iload X107.here hx rfl (hb hby at_222) rfl k) ?_
      refine own_go (B := (T107.setTop (mkF m 225 #[iv p0, iv p1, iv (4 : Int32), iv (0 : Int32), iv (2 : Int32), rv a2, rv a46, iv (1 : Int32), rv b64, .unset] [(.int ((4 : Int32) / (2 : Int32)))]))) (fun t k => XS.idiv (x := (4 : Int32)) (y := (2 : Int32)) X107.here hx rfl (hb hby at_224) rfl (by decide) k) ?_
      rw [show ((4 : Int32) / (2 : Int32)) = (2 : Int32) from by decide]
      refine own_go (B := (T107.setTop (mkF m 227 #[iv p0, iv p1, iv (4 : Int32), iv (0 : Int32), iv (2 : Int32), rv a2, rv a46, iv (1 : Int32), rv b64, iv (2 : Int32)] []))) (fun t k => XS.istore X107.here hx rfl (hb hby at_225) rfl (l' := #[iv p0, iv p1, iv (4 : Int32), iv (0 : Int32), iv (2 : Int32), rv a2, rv a46, iv (1 : Int32), rv b64, iv (2 : Int32)]) rfl k) ?_
      refine own_go (B := (T107.setTop (mkF m 229 #[iv p0, iv p1, iv (4 : Int32), iv (0 : Int32), iv (2 : Int32), rv a2, rv a46, iv (1 : Int32), rv b64, iv (2 : Int32)] [(.int (2 : Int32))]))) (fun t k => XS.iload X107.here hx rfl (hb hby at_227) rfl k) ?_
      refine own_go (B := (T107.setTop (mkF m 230 #[iv p0, iv p1, iv (4 : Int32), iv (0 : Int32), iv (2 : Int32), rv a2, rv a46, iv (1 : Int32), rv b64, iv (2 : Int32)] [(.int (1 : Int32)), (.int (2 : Int32))]))) (fun t k => own_iconst (v := (1 : Int32)) X107.here hx rfl (hb hby at_229) (by decide) k) ?_
      have hc230 : ¬ (2 : Int32) < (1 : Int32) := (by decide)
      refine own_icmpN X107 hx (hb hby at_230) (pn := 233) rfl hc230 ?_
      refine own_go (B := (T107.setTop (mkF m 235 #[iv p0, iv p1, iv (4 : Int32), iv (0 : Int32), iv (2 : Int32), rv a2, rv a46, iv (1 : Int32), rv b64, iv (2 : Int32)] [(.ref b64)]))) (fun t k => XS.aload X107.here hx rfl (hb hby at_233) rfl rfl k) ?_
      refine own_go (B := (T107.setTop (mkF m 236 #[iv p0, iv p1, iv (4 : Int32), iv (0 : Int32), iv (2 : Int32), rv a2, rv a46, iv (1 : Int32), rv b64, iv (2 : Int32)] [(.int (0 : Int32)), (.ref b64)]))) (fun t k => XS.iloadN X107.here hx rfl (hb hby at_235) rfl k) ?_
      obtain ⟨_, _, ⟨T108, L108, k108, n108⟩, -, X108, hs108, hg108, ⟨Lc108, hQ108, l108, yy108, zz108⟩, st108⟩ := callSS X107 hx (y := own_y19) ho64 (mvT hZ64 w_42) (mvT hZ64 w_43) (mvT hZ64 w_44) (mvT hZ64 w_45) (by decide) (backOfS (W := 0) (own_ro0 l Z a0 hw [] b64 a2 (2 : Int32) (6 : Int32) (4 : Int32) (5 : Int32) (0 : Int32) [(.int (48 : Int32)), (.int (4 : Int32)), (.int (5 : Int32)), (.int (0 : Int32)), (.int (5 : Int32)), (.int (0 : Int32)), (.int (5 : Int32)), (.int (0 : Int32))] T64.heap n0 F65 Exi64 gn_b64 gbi64 gpi64 gei64 F67 (by decide) (by decide) (by decide) rfl (by decide) rfl (by decide) (by decide) (by decide) (by decide)) hZ64 w_45 w_44 (by decide) (by decide)) (g := (mkF m 236 #[iv p0, iv p1, iv (4 : Int32), iv (0 : Int32), iv (2 : Int32), rv a2, rv a46, iv (1 : Int32), rv b64, iv (2 : Int32)] [(.int (0 : Int32)), (.ref b64)])) rfl (by rw [hml]; rfl) (argsL := [(.ref b64), (.int (0 : Int32))]) (rest := []) (lenOf own_pd14 rfl) rfl (by show 2 * 0 + _ ≤ _; exact own_b rfl) (hb hby at_236) (fun _ _ => ⟨rfl, e107, (own_b rfl : 5 + 2 ≤ _), (own_b rfl : 50 + 20 ≤ _)⟩)
      dsimp only [Pt.U, Pt.locs, Pt.cells, Pt.slots] at X108 l108 yy108 zz108 st108 hQ108 hs108 hg108
      obtain ⟨rfl, Nq108, K108, Ex108, gb108, gp108, ge108⟩ := hQ108
      obtain ⟨L108, X108, N108⟩ := own_absC (K := 7) (K' := 70) X108 l108 yy108 zz108 N107 Nq108
      have X108 : Stand p l e room_1 (s.setVm T108.vm) m #[(.int p0), (.int p1)] below meth c T108 L108 7 70 := X108
      have hS108 := foldS hS64 (T := T107) (by rw [e107]; exact hk64) hs108 hg108
      have hZ108 : Z.Warmed39 (s.setVm T108.vm).vm := State.Warmed39.trans (t := s.setVm T64.vm) hZ64 hs108.1
      have ho108 : (s.setVm T108.vm).vm.findClass "com/example/honeybee/honeybee/device/DerReaderAtEndPinLaw" = some m.cls := by rw [show (s.setVm T108.vm).vm = T108.vm from rfl, hs108.1.alike.findClass]; exact ho64
      have F109 : n0 ≤ T108.heap.size := Nat.le_trans F65 K108.1
      have F110 := Keep.trans F66 K108 (allS (Or.inr (Nat.le_trans F57.1 gz64)) all0)
      have F111 := own_Ar_keep F67 K108 (ninS (Ne.symm nb64_a2) nin0)
      have F112 := Exa.keep Exo64 K108
      have F113 := Fld.keep gbo64 K108 (ninS (Ne.symm nb64_a46) nin0)
      have F114 := Fld.keep gpo64 K108 (ninS (Ne.symm nb64_a46) nin0)
      have F115 := Fld.keep geo64 K108 (ninS (Ne.symm nb64_a46) nin0)
      have F116 := Exa.keep Exi64 K108
      have hk108 : T108.heap.size ≤ T108.heap.size := Nat.le_refl _
      refine own_tr (B := (T108.setTop (mkF m 239 #[iv p0, iv p1, iv (4 : Int32), iv (0 : Int32), iv (2 : Int32), rv a2, rv a46, iv (1 : Int32), rv b64, iv (2 : Int32)] []))) st108 ?_
      refine own_go (B := (T108.setTop (mkF m 241 #[iv p0, iv p1, iv (4 : Int32), iv (0 : Int32), iv (2 : Int32), rv a2, rv a46, iv (1 : Int32), rv b64, iv (2 : Int32)] [(.int (1 : Int32))]))) (fun t k => XS.iload X108.here hx rfl (hb hby at_239) rfl k) ?_
      have hc241 : ¬ (1 : Int32) = (0 : Int32) := (by decide)
      refine own_ifN X108 hx (hb hby at_241) (pn := 244) rfl hc241 ?_
      refine own_go (B := (T108.setTop (mkF m 246 #[iv p0, iv p1, iv (4 : Int32), iv (0 : Int32), iv (2 : Int32), rv a2, rv a46, iv (1 : Int32), rv b64, iv (2 : Int32)] [(.ref b64)]))) (fun t k => XS.aload X108.here hx rfl (hb hby at_244) rfl rfl k) ?_
      obtain ⟨cq120, kq120, qa120, qb120, qc120⟩ := isOf hZ108 rfl Ex108
      obtain ⟨_, _, ⟨T120, L120, k120, n120⟩, -, X120, ⟨Lc120, hQ120, l120, yy120, zz120⟩, st120⟩ := X108.virtualBack hx (y := own_y17) (z := own_y17) ho108 (mvT hZ108 w_20) (mvT hZ108 w_21) (notFace_of_selects (args := #[]) (mvT hZ108 w_23)) (mvT hZ108 w_23) (mvT hZ108 w_22) (by decide) (backOf (W := 0) (own_ae l Z a0 hw [] b64 (4 : Int32) (6 : Int32) T108.heap n0 gp108 ge108) hZ108 w_24 w_4 (by decide) (by decide)) qa120 qc120 (g := (mkF m 246 #[iv p0, iv p1, iv (4 : Int32), iv (0 : Int32), iv (2 : Int32), rv a2, rv a46, iv (1 : Int32), rv b64, iv (2 : Int32)] [(.ref b64)])) rfl (by rw [hml]; rfl) (Steps.refl _) (argsL := []) (rest := []) (lenOf own_pd12 rfl) rfl (by show 2 * 0 + _ ≤ _; exact own_b rfl) (hb hby at_246) (fun _ _ => ⟨rfl, rfl, (own_b rfl : 7 + 0 ≤ _), (own_b rfl : 70 + 0 ≤ _)⟩)
      dsimp only [Pt.U, Pt.locs, Pt.cells, Pt.slots] at X120 l120 yy120 zz120 st120 hQ120
      obtain ⟨rfl, Nq120, eq120⟩ := hQ120
      obtain ⟨L120, X120, N120⟩ := own_absC (K := 7) (K' := 70) X120 l120 yy120 zz120 N108 Nq120
      have e120 : T120.heap = T108.heap := eq120
      refine own_tr (B := (T120.setTop (mkF m 249 #[iv p0, iv p1, iv (4 : Int32), iv (0 : Int32), iv (2 : Int32), rv a2, rv a46, iv (1 : Int32), rv b64, iv (2 : Int32)] [(.int (own_eqr (4 : Int32) (6 : Int32)))]))) st120 ?_
      rw [show own_eqr (4 : Int32) (6 : Int32) = (0 : Int32) from by decide]
      refine own_go (B := (T120.setTop (mkF m 251 #[iv p0, iv p1, iv (4 : Int32), iv (0 : Int32), iv (2 : Int32), rv a2, rv a46, iv (1 : Int32), rv b64, iv (2 : Int32)] [(.int (2 : Int32)), (.int (0 : Int32))]))) (fun t k => XS.iload X120.here hx rfl (hb hby at_249) rfl k) ?_
      refine own_go (B := (T120.setTop (mkF m 252 #[iv p0, iv p1, iv (4 : Int32), iv (0 : Int32), iv (2 : Int32), rv a2, rv a46, iv (1 : Int32), rv b64, iv (2 : Int32)] [(.int (4 : Int32)), (.int (2 : Int32)), (.int (0 : Int32))]))) (fun t k => XS.iloadN X120.here hx rfl (hb hby at_251) rfl k) ?_
      have hc252 : ¬ (2 : Int32) = (4 : Int32) := (by decide)
      refine own_icmpY X120 hx (hb hby at_252) (pc' := 259) (by decide) (by decide) hc252 ?_
      refine own_go (B := (T120.setTop (mkF m 260 #[iv p0, iv p1, iv (4 : Int32), iv (0 : Int32), iv (2 : Int32), rv a2, rv a46, iv (1 : Int32), rv b64, iv (2 : Int32)] [(.int (0 : Int32)), (.int (0 : Int32))]))) (fun t k => own_iconst (v := (0 : Int32)) X120.here hx rfl (hb hby at_259) (by decide) k) ?_
      have hc260 : (0 : Int32) = (0 : Int32) := (by decide)
      refine own_icmpN X120 hx (hb hby at_260) (pn := 263) rfl hc260 ?_
      refine own_go (B := (T120.setTop (mkF m 264 #[iv p0, iv p1, iv (4 : Int32), iv (0 : Int32), iv (2 : Int32), rv a2, rv a46, iv (1 : Int32), rv b64, iv (2 : Int32)] [(.int (1 : Int32))]))) (fun t k => own_iconst (v := (1 : Int32)) X120.here hx rfl (hb hby at_263) (by decide) k) ?_
      refine own_go (B := (T120.setTop (mkF m 268 #[iv p0, iv p1, iv (4 : Int32), iv (0 : Int32), iv (2 : Int32), rv a2, rv a46, iv (1 : Int32), rv b64, iv (2 : Int32)] [(.int (1 : Int32))]))) (fun t k => XS.goto X120.here hx rfl (pc0 := 264) (pc' := 268) rfl (hb hby at_264) (by decide) (by decide) k) ?_
      refine own_go (B := (T120.setTop (mkF m 270 #[iv p0, iv p1, iv (4 : Int32), iv (0 : Int32), iv (2 : Int32), rv a2, rv a46, iv (1 : Int32), rv b64, iv (2 : Int32)] []))) (fun t k => XS.istore X120.here hx rfl (hb hby at_268) rfl (l' := #[iv p0, iv p1, iv (4 : Int32), iv (0 : Int32), iv (2 : Int32), rv a2, rv a46, iv (1 : Int32), rv b64, iv (2 : Int32)]) rfl k) ?_
      refine own_go (B := (T120.setTop (mkF m 272 #[iv p0, iv p1, iv (4 : Int32), iv (0 : Int32), iv (2 : Int32), rv a2, rv a46, iv (1 : Int32), rv b64, iv (2 : Int32)] [(.int (2 : Int32))]))) (fun t k => XS.iload X120.here hx rfl (hb hby at_270) rfl k) ?_
      refine own_go (B := (T120.setTop (mkF m 273 #[iv p0, iv p1, iv (4 : Int32), iv (0 : Int32), iv (2 : Int32), rv a2, rv a46, iv (1 : Int32), rv b64, iv (2 : Int32)] [(.int (2 : Int32)), (.int (2 : Int32))]))) (fun t k => own_iconst (v := (2 : Int32)) X120.here hx rfl (hb hby at_272) (by decide) k) ?_
      have hc273 : ¬ (2 : Int32) < (2 : Int32) := (by decide)
      refine own_icmpN X120 hx (hb hby at_273) (pn := 276) rfl hc273 ?_
      refine own_go (B := (T120.setTop (mkF m 278 #[iv p0, iv p1, iv (4 : Int32), iv (0 : Int32), iv (2 : Int32), rv a2, rv a46, iv (1 : Int32), rv b64, iv (2 : Int32)] [(.ref b64)]))) (fun t k => XS.aload X120.here hx rfl (hb hby at_276) rfl rfl k) ?_
      refine own_go (B := (T120.setTop (mkF m 279 #[iv p0, iv p1, iv (4 : Int32), iv (0 : Int32), iv (2 : Int32), rv a2, rv a46, iv (1 : Int32), rv b64, iv (2 : Int32)] [(.int (0 : Int32)), (.ref b64)]))) (fun t k => XS.iloadN X120.here hx rfl (hb hby at_278) rfl k) ?_
      obtain ⟨_, _, ⟨T121, L121, k121, n121⟩, -, X121, hs121, hg121, ⟨Lc121, hQ121, l121, yy121, zz121⟩, st121⟩ := callSS X120 hx (y := own_y19) ho108 (mvT hZ108 w_42) (mvT hZ108 w_43) (mvT hZ108 w_44) (mvT hZ108 w_45) (by decide) (backOfS (W := 0) (own_ro0 l Z a0 hw [] b64 a2 (4 : Int32) (6 : Int32) (6 : Int32) (5 : Int32) (0 : Int32) [(.int (48 : Int32)), (.int (4 : Int32)), (.int (5 : Int32)), (.int (0 : Int32)), (.int (5 : Int32)), (.int (0 : Int32)), (.int (5 : Int32)), (.int (0 : Int32))] T108.heap n0 F109 Ex108 gn_b64 gb108 gp108 ge108 F111 (by decide) (by decide) (by decide) rfl (by decide) rfl (by decide) (by decide) (by decide) (by decide)) hZ108 w_45 w_44 (by decide) (by decide)) (g := (mkF m 279 #[iv p0, iv p1, iv (4 : Int32), iv (0 : Int32), iv (2 : Int32), rv a2, rv a46, iv (1 : Int32), rv b64, iv (2 : Int32)] [(.int (0 : Int32)), (.ref b64)])) rfl (by rw [hml]; rfl) (argsL := [(.ref b64), (.int (0 : Int32))]) (rest := []) (lenOf own_pd14 rfl) rfl (by show 2 * 0 + _ ≤ _; exact own_b rfl) (hb hby at_279) (fun _ _ => ⟨rfl, e120, (own_b rfl : 7 + 2 ≤ _), (own_b rfl : 70 + 20 ≤ _)⟩)
      dsimp only [Pt.U, Pt.locs, Pt.cells, Pt.slots] at X121 l121 yy121 zz121 st121 hQ121 hs121 hg121
      obtain ⟨rfl, Nq121, K121, Ex121, gb121, gp121, ge121⟩ := hQ121
      obtain ⟨L121, X121, N121⟩ := own_absC (K := 9) (K' := 90) X121 l121 yy121 zz121 N120 Nq121
      have X121 : Stand p l e room_1 (s.setVm T121.vm) m #[(.int p0), (.int p1)] below meth c T121 L121 9 90 := X121
      have hS121 := foldS hS108 (T := T120) (by rw [e120]; exact hk108) hs121 hg121
      have hZ121 : Z.Warmed39 (s.setVm T121.vm).vm := State.Warmed39.trans (t := s.setVm T108.vm) hZ108 hs121.1
      have ho121 : (s.setVm T121.vm).vm.findClass "com/example/honeybee/honeybee/device/DerReaderAtEndPinLaw" = some m.cls := by rw [show (s.setVm T121.vm).vm = T121.vm from rfl, hs121.1.alike.findClass]; exact ho108
      have F122 : n0 ≤ T121.heap.size := Nat.le_trans F109 K121.1
      have F123 := Keep.trans F110 K121 (allS (Or.inr (Nat.le_trans F57.1 gz64)) all0)
      have F124 := own_Ar_keep F111 K121 (ninS (Ne.symm nb64_a2) nin0)
      have F125 := Exa.keep F112 K121
      have F126 := Fld.keep F113 K121 (ninS (Ne.symm nb64_a46) nin0)
      have F127 := Fld.keep F114 K121 (ninS (Ne.symm nb64_a46) nin0)
      have F128 := Fld.keep F115 K121 (ninS (Ne.symm nb64_a46) nin0)
      have F129 := Exa.keep Ex108 K121
      have hk121 : T121.heap.size ≤ T121.heap.size := Nat.le_refl _
      refine own_tr (B := (T121.setTop (mkF m 282 #[iv p0, iv p1, iv (4 : Int32), iv (0 : Int32), iv (2 : Int32), rv a2, rv a46, iv (1 : Int32), rv b64, iv (2 : Int32)] []))) st121 ?_
      refine own_go (B := (T121.setTop (mkF m 284 #[iv p0, iv p1, iv (4 : Int32), iv (0 : Int32), iv (2 : Int32), rv a2, rv a46, iv (1 : Int32), rv b64, iv (2 : Int32)] [(.int (1 : Int32))]))) (fun t k => XS.iload X121.here hx rfl (hb hby at_282) rfl k) ?_
      have hc284 : ¬ (1 : Int32) = (0 : Int32) := (by decide)
      refine own_ifN X121 hx (hb hby at_284) (pn := 287) rfl hc284 ?_
      refine own_go (B := (T121.setTop (mkF m 289 #[iv p0, iv p1, iv (4 : Int32), iv (0 : Int32), iv (2 : Int32), rv a2, rv a46, iv (1 : Int32), rv b64, iv (2 : Int32)] [(.ref b64)]))) (fun t k => XS.aload X121.here hx rfl (hb hby at_287) rfl rfl k) ?_
      obtain ⟨cq133, kq133, qa133, qb133, qc133⟩ := isOf hZ121 rfl Ex121
      obtain ⟨_, _, ⟨T133, L133, k133, n133⟩, -, X133, ⟨Lc133, hQ133, l133, yy133, zz133⟩, st133⟩ := X121.virtualBack hx (y := own_y17) (z := own_y17) ho121 (mvT hZ121 w_20) (mvT hZ121 w_21) (notFace_of_selects (args := #[]) (mvT hZ121 w_23)) (mvT hZ121 w_23) (mvT hZ121 w_22) (by decide) (backOf (W := 0) (own_ae l Z a0 hw [] b64 (6 : Int32) (6 : Int32) T121.heap n0 gp121 ge121) hZ121 w_24 w_4 (by decide) (by decide)) qa133 qc133 (g := (mkF m 289 #[iv p0, iv p1, iv (4 : Int32), iv (0 : Int32), iv (2 : Int32), rv a2, rv a46, iv (1 : Int32), rv b64, iv (2 : Int32)] [(.ref b64)])) rfl (by rw [hml]; rfl) (Steps.refl _) (argsL := []) (rest := []) (lenOf own_pd12 rfl) rfl (by show 2 * 0 + _ ≤ _; exact own_b rfl) (hb hby at_289) (fun _ _ => ⟨rfl, rfl, (own_b rfl : 9 + 0 ≤ _), (own_b rfl : 90 + 0 ≤ _)⟩)
      dsimp only [Pt.U, Pt.locs, Pt.cells, Pt.slots] at X133 l133 yy133 zz133 st133 hQ133
      obtain ⟨rfl, Nq133, eq133⟩ := hQ133
      obtain ⟨L133, X133, N133⟩ := own_absC (K := 9) (K' := 90) X133 l133 yy133 zz133 N121 Nq133
      have e133 : T133.heap = T121.heap := eq133
      refine own_tr (B := (T133.setTop (mkF m 292 #[iv p0, iv p1, iv (4 : Int32), iv (0 : Int32), iv (2 : Int32), rv a2, rv a46, iv (1 : Int32), rv b64, iv (2 : Int32)] [(.int (own_eqr (6 : Int32) (6 : Int32)))]))) st133 ?_
      rw [show own_eqr (6 : Int32) (6 : Int32) = (1 : Int32) from by decide]
      refine own_go (B := (T133.setTop (mkF m 293 #[iv p0, iv p1, iv (4 : Int32), iv (0 : Int32), iv (2 : Int32), rv a2, rv a46, iv (1 : Int32), rv b64, iv (2 : Int32)] [(.int (2 : Int32)), (.int (1 : Int32))]))) (fun t k => own_iconst (v := (2 : Int32)) X133.here hx rfl (hb hby at_292) (by decide) k) ?_
      refine own_go (B := (T133.setTop (mkF m 295 #[iv p0, iv p1, iv (4 : Int32), iv (0 : Int32), iv (2 : Int32), rv a2, rv a46, iv (1 : Int32), rv b64, iv (2 : Int32)] [(.int (2 : Int32)), (.int (2 : Int32)), (.int (1 : Int32))]))) (fun t k => XS.iload X133.here hx rfl (hb hby at_293) rfl k) ?_
      refine own_go (B := (T133.setTop (mkF m 296 #[iv p0, iv p1, iv (4 : Int32), iv (0 : Int32), iv (2 : Int32), rv a2, rv a46, iv (1 : Int32), rv b64, iv (2 : Int32)] [(.int ((2 : Int32) * (2 : Int32))), (.int (1 : Int32))]))) (fun t k => XS.imul (x := (2 : Int32)) (y := (2 : Int32)) X133.here hx rfl (hb hby at_295) rfl k) ?_
      rw [show ((2 : Int32) * (2 : Int32)) = (4 : Int32) from by decide]
      refine own_go (B := (T133.setTop (mkF m 297 #[iv p0, iv p1, iv (4 : Int32), iv (0 : Int32), iv (2 : Int32), rv a2, rv a46, iv (1 : Int32), rv b64, iv (2 : Int32)] [(.int (4 : Int32)), (.int (4 : Int32)), (.int (1 : Int32))]))) (fun t k => XS.iloadN X133.here hx rfl (hb hby at_296) rfl k) ?_
      have hc297 : (4 : Int32) = (4 : Int32) := (by decide)
      refine own_icmpN X133 hx (hb hby at_297) (pn := 300) rfl hc297 ?_
      refine own_go (B := (T133.setTop (mkF m 301 #[iv p0, iv p1, iv (4 : Int32), iv (0 : Int32), iv (2 : Int32), rv a2, rv a46, iv (1 : Int32), rv b64, iv (2 : Int32)] [(.int (1 : Int32)), (.int (1 : Int32))]))) (fun t k => own_iconst (v := (1 : Int32)) X133.here hx rfl (hb hby at_300) (by decide) k) ?_
      refine own_go (B := (T133.setTop (mkF m 305 #[iv p0, iv p1, iv (4 : Int32), iv (0 : Int32), iv (2 : Int32), rv a2, rv a46, iv (1 : Int32), rv b64, iv (2 : Int32)] [(.int (1 : Int32)), (.int (1 : Int32))]))) (fun t k => XS.goto X133.here hx rfl (pc0 := 301) (pc' := 305) rfl (hb hby at_301) (by decide) (by decide) k) ?_
      have hc305 : (1 : Int32) = (1 : Int32) := (by decide)
      refine own_icmpN X133 hx (hb hby at_305) (pn := 308) rfl hc305 ?_
      refine own_go (B := (T133.setTop (mkF m 309 #[iv p0, iv p1, iv (4 : Int32), iv (0 : Int32), iv (2 : Int32), rv a2, rv a46, iv (1 : Int32), rv b64, iv (2 : Int32)] [(.int (1 : Int32))]))) (fun t k => own_iconst (v := (1 : Int32)) X133.here hx rfl (hb hby at_308) (by decide) k) ?_
      refine own_go (B := (T133.setTop (mkF m 313 #[iv p0, iv p1, iv (4 : Int32), iv (0 : Int32), iv (2 : Int32), rv a2, rv a46, iv (1 : Int32), rv b64, iv (2 : Int32)] [(.int (1 : Int32))]))) (fun t k => XS.goto X133.here hx rfl (pc0 := 309) (pc' := 313) rfl (hb hby at_309) (by decide) (by decide) k) ?_
      refine own_go (B := (T133.setTop (mkF m 315 #[iv p0, iv p1, iv (4 : Int32), iv (0 : Int32), iv (2 : Int32), rv a2, rv a46, iv (1 : Int32), rv b64, iv (2 : Int32)] []))) (fun t k => XS.istore X133.here hx rfl (hb hby at_313) rfl (l' := #[iv p0, iv p1, iv (4 : Int32), iv (0 : Int32), iv (2 : Int32), rv a2, rv a46, iv (1 : Int32), rv b64, iv (2 : Int32)]) rfl k) ?_
      refine own_go (B := (T133.setTop (mkF m 317 #[iv p0, iv p1, iv (4 : Int32), iv (0 : Int32), iv (2 : Int32), rv a2, rv a46, iv (1 : Int32), rv b64, iv (2 : Int32)] [(.int (2 : Int32))]))) (fun t k => XS.iload X133.here hx rfl (hb hby at_315) rfl k) ?_
      refine own_go (B := (T133.setTop (mkF m 318 #[iv p0, iv p1, iv (4 : Int32), iv (0 : Int32), iv (2 : Int32), rv a2, rv a46, iv (1 : Int32), rv b64, iv (2 : Int32)] [(.int (3 : Int32)), (.int (2 : Int32))]))) (fun t k => own_iconst (v := (3 : Int32)) X133.here hx rfl (hb hby at_317) (by decide) k) ?_
      have hc318 : (2 : Int32) < (3 : Int32) := (by decide)
      refine own_icmpY X133 hx (hb hby at_318) (pc' := 360) (by decide) (by decide) hc318 ?_
      refine own_go (B := (T133.setTop (mkF m 362 #[iv p0, iv p1, iv (4 : Int32), iv (0 : Int32), iv (2 : Int32), rv a2, rv a46, iv (1 : Int32), rv b64, iv (2 : Int32)] [(.int (1 : Int32))]))) (fun t k => XS.iload X133.here hx rfl (hb hby at_360) rfl k) ?_
      exact own_retWZ X133 hx hlk hS121 (by rw [e133]; exact hk121) Bd.returns (hb hby at_362) (by decide) (own_b rfl) (own_b rfl) (Q := (own_law_Q Z p0 p1 zz zm h0 n0)) ⟨rfl, N133⟩
    · obtain rfl : pe = (7 : Int32) := hpe.trans (by decide)
      refine own_go (B := (T64.setTop (mkF m 161 #[iv p0, iv p1, iv (5 : Int32), iv (0 : Int32), iv (2 : Int32), rv a2, rv a46, iv (1 : Int32), rv b64, .unset] []))) (fun t k => XS.astore X64.here hx rfl (hb hby at_159) rfl rfl (l' := #[iv p0, iv p1, iv (5 : Int32), iv (0 : Int32), iv (2 : Int32), rv a2, rv a46, iv (1 : Int32), rv b64, .unset]) rfl k) ?_
      refine own_go (B := (T64.setTop (mkF m 163 #[iv p0, iv p1, iv (5 : Int32), iv (0 : Int32), iv (2 : Int32), rv a2, rv a46, iv (1 : Int32), rv b64, .unset] [(.int (1 : Int32))]))) (fun t k => XS.iload X64.here hx rfl (hb hby at_161) rfl k) ?_
      have hc163 : ¬ (1 : Int32) = (0 : Int32) := (by decide)
      refine own_ifN X64 hx (hb hby at_163) (pn := 166) rfl hc163 ?_
      refine own_go (B := (T64.setTop (mkF m 168 #[iv p0, iv p1, iv (5 : Int32), iv (0 : Int32), iv (2 : Int32), rv a2, rv a46, iv (1 : Int32), rv b64, .unset] [(.ref a46)]))) (fun t k => XS.aload X64.here hx rfl (hb hby at_166) rfl rfl k) ?_
      obtain ⟨cq134, kq134, qa134, qb134, qc134⟩ := isOf hZ64 rfl Exo64
      obtain ⟨_, _, ⟨T134, L134, k134, n134⟩, -, X134, ⟨Lc134, hQ134, l134, yy134, zz134⟩, st134⟩ := X64.virtualBack hx (y := own_y17) (z := own_y17) ho64 (mvT hZ64 w_20) (mvT hZ64 w_21) (notFace_of_selects (args := #[]) (mvT hZ64 w_23)) (mvT hZ64 w_23) (mvT hZ64 w_22) (by decide) (backOf (W := 0) (own_ae l Z a0 hw [] a46 (7 : Int32) (8 : Int32) T64.heap n0 gpo64 geo64) hZ64 w_24 w_4 (by decide) (by decide)) qa134 qc134 (g := (mkF m 168 #[iv p0, iv p1, iv (5 : Int32), iv (0 : Int32), iv (2 : Int32), rv a2, rv a46, iv (1 : Int32), rv b64, .unset] [(.ref a46)])) rfl (by rw [hml]; rfl) (Steps.refl _) (argsL := []) (rest := []) (lenOf own_pd12 rfl) rfl (by show 2 * 0 + _ ≤ _; exact own_b rfl) (hb hby at_168) (fun _ _ => ⟨rfl, rfl, (own_b rfl : 5 + 0 ≤ _), (own_b rfl : 50 + 0 ≤ _)⟩)
      dsimp only [Pt.U, Pt.locs, Pt.cells, Pt.slots] at X134 l134 yy134 zz134 st134 hQ134
      obtain ⟨rfl, Nq134, eq134⟩ := hQ134
      obtain ⟨L134, X134, N134⟩ := own_absC (K := 5) (K' := 50) X134 l134 yy134 zz134 N64 Nq134
      have e134 : T134.heap = T64.heap := eq134
      refine own_tr (B := (T134.setTop (mkF m 171 #[iv p0, iv p1, iv (5 : Int32), iv (0 : Int32), iv (2 : Int32), rv a2, rv a46, iv (1 : Int32), rv b64, .unset] [(.int (own_eqr (7 : Int32) (8 : Int32)))]))) st134 ?_
      rw [show own_eqr (7 : Int32) (8 : Int32) = (0 : Int32) from by decide]
      refine own_go (B := (T134.setTop (mkF m 172 #[iv p0, iv p1, iv (5 : Int32), iv (0 : Int32), iv (2 : Int32), rv a2, rv a46, iv (1 : Int32), rv b64, .unset] [(.int (5 : Int32)), (.int (0 : Int32))]))) (fun t k => XS.iloadN X134.here hx rfl (hb hby at_171) rfl k) ?_
      refine own_go (B := (T134.setTop (mkF m 174 #[iv p0, iv p1, iv (5 : Int32), iv (0 : Int32), iv (2 : Int32), rv a2, rv a46, iv (1 : Int32), rv b64, .unset] [(.int (6 : Int32)), (.int (5 : Int32)), (.int (0 : Int32))]))) (fun t k => own_bipush (v := (6 : Int32)) X134.here hx rfl (hb hby at_172) (by decide) k) ?_
      have hc174 : ¬ (5 : Int32) = (6 : Int32) := (by decide)
      refine own_icmpY X134 hx (hb hby at_174) (pc' := 181) (by decide) (by decide) hc174 ?_
      refine own_go (B := (T134.setTop (mkF m 182 #[iv p0, iv p1, iv (5 : Int32), iv (0 : Int32), iv (2 : Int32), rv a2, rv a46, iv (1 : Int32), rv b64, .unset] [(.int (0 : Int32)), (.int (0 : Int32))]))) (fun t k => own_iconst (v := (0 : Int32)) X134.here hx rfl (hb hby at_181) (by decide) k) ?_
      have hc182 : (0 : Int32) = (0 : Int32) := (by decide)
      refine own_icmpN X134 hx (hb hby at_182) (pn := 185) rfl hc182 ?_
      refine own_go (B := (T134.setTop (mkF m 186 #[iv p0, iv p1, iv (5 : Int32), iv (0 : Int32), iv (2 : Int32), rv a2, rv a46, iv (1 : Int32), rv b64, .unset] [(.int (1 : Int32))]))) (fun t k => own_iconst (v := (1 : Int32)) X134.here hx rfl (hb hby at_185) (by decide) k) ?_
      refine own_go (B := (T134.setTop (mkF m 190 #[iv p0, iv p1, iv (5 : Int32), iv (0 : Int32), iv (2 : Int32), rv a2, rv a46, iv (1 : Int32), rv b64, .unset] [(.int (1 : Int32))]))) (fun t k => XS.goto X134.here hx rfl (pc0 := 186) (pc' := 190) rfl (hb hby at_186) (by decide) (by decide) k) ?_
      refine own_go (B := (T134.setTop (mkF m 192 #[iv p0, iv p1, iv (5 : Int32), iv (0 : Int32), iv (2 : Int32), rv a2, rv a46, iv (1 : Int32), rv b64, .unset] []))) (fun t k => XS.istore X134.here hx rfl (hb hby at_190) rfl (l' := #[iv p0, iv p1, iv (5 : Int32), iv (0 : Int32), iv (2 : Int32), rv a2, rv a46, iv (1 : Int32), rv b64, .unset]) rfl k) ?_
      refine own_go (B := (T134.setTop (mkF m 194 #[iv p0, iv p1, iv (5 : Int32), iv (0 : Int32), iv (2 : Int32), rv a2, rv a46, iv (1 : Int32), rv b64, .unset] [(.int (1 : Int32))]))) (fun t k => XS.iload X134.here hx rfl (hb hby at_192) rfl k) ?_
      have hc194 : ¬ (1 : Int32) = (0 : Int32) := (by decide)
      refine own_ifN X134 hx (hb hby at_194) (pn := 197) rfl hc194 ?_
      refine own_go (B := (T134.setTop (mkF m 199 #[iv p0, iv p1, iv (5 : Int32), iv (0 : Int32), iv (2 : Int32), rv a2, rv a46, iv (1 : Int32), rv b64, .unset] [(.ref b64)]))) (fun t k => XS.aload X134.here hx rfl (hb hby at_197) rfl rfl k) ?_
      obtain ⟨cq135, kq135, qa135, qb135, qc135⟩ := isOf hZ64 e134 Exi64
      obtain ⟨_, _, ⟨T135, L135, k135, n135⟩, -, X135, ⟨Lc135, hQ135, l135, yy135, zz135⟩, st135⟩ := X134.virtualBack hx (y := own_y17) (z := own_y17) ho64 (mvT hZ64 w_20) (mvT hZ64 w_21) (notFace_of_selects (args := #[]) (mvT hZ64 w_23)) (mvT hZ64 w_23) (mvT hZ64 w_22) (by decide) (backOf (W := 0) (own_ae l Z a0 hw [] b64 (2 : Int32) (7 : Int32) T64.heap n0 gpi64 gei64) hZ64 w_24 w_4 (by decide) (by decide)) qa135 qc135 (g := (mkF m 199 #[iv p0, iv p1, iv (5 : Int32), iv (0 : Int32), iv (2 : Int32), rv a2, rv a46, iv (1 : Int32), rv b64, .unset] [(.ref b64)])) rfl (by rw [hml]; rfl) (Steps.refl _) (argsL := []) (rest := []) (lenOf own_pd12 rfl) rfl (by show 2 * 0 + _ ≤ _; exact own_b rfl) (hb hby at_199) (fun _ _ => ⟨rfl, e134, (own_b rfl : 5 + 0 ≤ _), (own_b rfl : 50 + 0 ≤ _)⟩)
      dsimp only [Pt.U, Pt.locs, Pt.cells, Pt.slots] at X135 l135 yy135 zz135 st135 hQ135
      obtain ⟨rfl, Nq135, eq135⟩ := hQ135
      obtain ⟨L135, X135, N135⟩ := own_absC (K := 5) (K' := 50) X135 l135 yy135 zz135 N134 Nq135
      have e135 : T135.heap = T64.heap := eq135
      refine own_tr (B := (T135.setTop (mkF m 202 #[iv p0, iv p1, iv (5 : Int32), iv (0 : Int32), iv (2 : Int32), rv a2, rv a46, iv (1 : Int32), rv b64, .unset] [(.int (own_eqr (2 : Int32) (7 : Int32)))]))) st135 ?_
      rw [show own_eqr (2 : Int32) (7 : Int32) = (0 : Int32) from by decide]
      refine own_go (B := (T135.setTop (mkF m 203 #[iv p0, iv p1, iv (5 : Int32), iv (0 : Int32), iv (2 : Int32), rv a2, rv a46, iv (1 : Int32), rv b64, .unset] [(.int (5 : Int32)), (.int (0 : Int32))]))) (fun t k => XS.iloadN X135.here hx rfl (hb hby at_202) rfl k) ?_
      have hc203 : ¬ (5 : Int32) = (0 : Int32) := (by decide)
      refine own_ifY X135 hx (hb hby at_203) (pc' := 210) (by decide) (by decide) hc203 ?_
      refine own_go (B := (T135.setTop (mkF m 211 #[iv p0, iv p1, iv (5 : Int32), iv (0 : Int32), iv (2 : Int32), rv a2, rv a46, iv (1 : Int32), rv b64, .unset] [(.int (0 : Int32)), (.int (0 : Int32))]))) (fun t k => own_iconst (v := (0 : Int32)) X135.here hx rfl (hb hby at_210) (by decide) k) ?_
      have hc211 : (0 : Int32) = (0 : Int32) := (by decide)
      refine own_icmpN X135 hx (hb hby at_211) (pn := 214) rfl hc211 ?_
      refine own_go (B := (T135.setTop (mkF m 215 #[iv p0, iv p1, iv (5 : Int32), iv (0 : Int32), iv (2 : Int32), rv a2, rv a46, iv (1 : Int32), rv b64, .unset] [(.int (1 : Int32))]))) (fun t k => own_iconst (v := (1 : Int32)) X135.here hx rfl (hb hby at_214) (by decide) k) ?_
      refine own_go (B := (T135.setTop (mkF m 219 #[iv p0, iv p1, iv (5 : Int32), iv (0 : Int32), iv (2 : Int32), rv a2, rv a46, iv (1 : Int32), rv b64, .unset] [(.int (1 : Int32))]))) (fun t k => XS.goto X135.here hx rfl (pc0 := 215) (pc' := 219) rfl (hb hby at_215) (by decide) (by decide) k) ?_
      refine own_go (B := (T135.setTop (mkF m 221 #[iv p0, iv p1, iv (5 : Int32), iv (0 : Int32), iv (2 : Int32), rv a2, rv a46, iv (1 : Int32), rv b64, .unset] []))) (fun t k => XS.istore X135.here hx rfl (hb hby at_219) rfl (l' := #[iv p0, iv p1, iv (5 : Int32), iv (0 : Int32), iv (2 : Int32), rv a2, rv a46, iv (1 : Int32), rv b64, .unset]) rfl k) ?_
      refine own_go (B := (T135.setTop (mkF m 222 #[iv p0, iv p1, iv (5 : Int32), iv (0 : Int32), iv (2 : Int32), rv a2, rv a46, iv (1 : Int32), rv b64, .unset] [(.int (5 : Int32))]))) (fun t k => XS.iloadN X135.here hx rfl (hb hby at_221) rfl k) ?_
      refine own_go (B := (T135.setTop (mkF m 224 #[iv p0, iv p1, iv (5 : Int32), iv (0 : Int32), iv (2 : Int32), rv a2, rv a46, iv (1 : Int32), rv b64, .unset] [(.int (2 : Int32)), (.int (5 : Int32))]))) (fun t k => XS.iload X135.here hx rfl (hb hby at_222) rfl k) ?_
      refine own_go (B := (T135.setTop (mkF m 225 #[iv p0, iv p1, iv (5 : Int32), iv (0 : Int32), iv (2 : Int32), rv a2, rv a46, iv (1 : Int32), rv b64, .unset] [(.int ((5 : Int32) / (2 : Int32)))]))) (fun t k => XS.idiv (x := (5 : Int32)) (y := (2 : Int32)) X135.here hx rfl (hb hby at_224) rfl (by decide) k) ?_
      rw [show ((5 : Int32) / (2 : Int32)) = (2 : Int32) from by decide]
      refine own_go (B := (T135.setTop (mkF m 227 #[iv p0, iv p1, iv (5 : Int32), iv (0 : Int32), iv (2 : Int32), rv a2, rv a46, iv (1 : Int32), rv b64, iv (2 : Int32)] []))) (fun t k => XS.istore X135.here hx rfl (hb hby at_225) rfl (l' := #[iv p0, iv p1, iv (5 : Int32), iv (0 : Int32), iv (2 : Int32), rv a2, rv a46, iv (1 : Int32), rv b64, iv (2 : Int32)]) rfl k) ?_
      refine own_go (B := (T135.setTop (mkF m 229 #[iv p0, iv p1, iv (5 : Int32), iv (0 : Int32), iv (2 : Int32), rv a2, rv a46, iv (1 : Int32), rv b64, iv (2 : Int32)] [(.int (2 : Int32))]))) (fun t k => XS.iload X135.here hx rfl (hb hby at_227) rfl k) ?_
      refine own_go (B := (T135.setTop (mkF m 230 #[iv p0, iv p1, iv (5 : Int32), iv (0 : Int32), iv (2 : Int32), rv a2, rv a46, iv (1 : Int32), rv b64, iv (2 : Int32)] [(.int (1 : Int32)), (.int (2 : Int32))]))) (fun t k => own_iconst (v := (1 : Int32)) X135.here hx rfl (hb hby at_229) (by decide) k) ?_
      have hc230 : ¬ (2 : Int32) < (1 : Int32) := (by decide)
      refine own_icmpN X135 hx (hb hby at_230) (pn := 233) rfl hc230 ?_
      refine own_go (B := (T135.setTop (mkF m 235 #[iv p0, iv p1, iv (5 : Int32), iv (0 : Int32), iv (2 : Int32), rv a2, rv a46, iv (1 : Int32), rv b64, iv (2 : Int32)] [(.ref b64)]))) (fun t k => XS.aload X135.here hx rfl (hb hby at_233) rfl rfl k) ?_
      refine own_go (B := (T135.setTop (mkF m 236 #[iv p0, iv p1, iv (5 : Int32), iv (0 : Int32), iv (2 : Int32), rv a2, rv a46, iv (1 : Int32), rv b64, iv (2 : Int32)] [(.int (0 : Int32)), (.ref b64)]))) (fun t k => XS.iloadN X135.here hx rfl (hb hby at_235) rfl k) ?_
      obtain ⟨_, _, ⟨T136, L136, k136, n136⟩, -, X136, hs136, hg136, ⟨Lc136, hQ136, l136, yy136, zz136⟩, st136⟩ := callSS X135 hx (y := own_y19) ho64 (mvT hZ64 w_42) (mvT hZ64 w_43) (mvT hZ64 w_44) (mvT hZ64 w_45) (by decide) (backOfS (W := 0) (own_ro0 l Z a0 hw [] b64 a2 (2 : Int32) (7 : Int32) (4 : Int32) (5 : Int32) (0 : Int32) [(.int (48 : Int32)), (.int (5 : Int32)), (.int (5 : Int32)), (.int (0 : Int32)), (.int (5 : Int32)), (.int (0 : Int32)), (.int (5 : Int32)), (.int (0 : Int32))] T64.heap n0 F65 Exi64 gn_b64 gbi64 gpi64 gei64 F67 (by decide) (by decide) (by decide) rfl (by decide) rfl (by decide) (by decide) (by decide) (by decide)) hZ64 w_45 w_44 (by decide) (by decide)) (g := (mkF m 236 #[iv p0, iv p1, iv (5 : Int32), iv (0 : Int32), iv (2 : Int32), rv a2, rv a46, iv (1 : Int32), rv b64, iv (2 : Int32)] [(.int (0 : Int32)), (.ref b64)])) rfl (by rw [hml]; rfl) (argsL := [(.ref b64), (.int (0 : Int32))]) (rest := []) (lenOf own_pd14 rfl) rfl (by show 2 * 0 + _ ≤ _; exact own_b rfl) (hb hby at_236) (fun _ _ => ⟨rfl, e135, (own_b rfl : 5 + 2 ≤ _), (own_b rfl : 50 + 20 ≤ _)⟩)
      dsimp only [Pt.U, Pt.locs, Pt.cells, Pt.slots] at X136 l136 yy136 zz136 st136 hQ136 hs136 hg136
      obtain ⟨rfl, Nq136, K136, Ex136, gb136, gp136, ge136⟩ := hQ136
      obtain ⟨L136, X136, N136⟩ := own_absC (K := 7) (K' := 70) X136 l136 yy136 zz136 N135 Nq136
      have X136 : Stand p l e room_1 (s.setVm T136.vm) m #[(.int p0), (.int p1)] below meth c T136 L136 7 70 := X136
      have hS136 := foldS hS64 (T := T135) (by rw [e135]; exact hk64) hs136 hg136
      have hZ136 : Z.Warmed39 (s.setVm T136.vm).vm := State.Warmed39.trans (t := s.setVm T64.vm) hZ64 hs136.1
      have ho136 : (s.setVm T136.vm).vm.findClass "com/example/honeybee/honeybee/device/DerReaderAtEndPinLaw" = some m.cls := by rw [show (s.setVm T136.vm).vm = T136.vm from rfl, hs136.1.alike.findClass]; exact ho64
      have F137 : n0 ≤ T136.heap.size := Nat.le_trans F65 K136.1
      have F138 := Keep.trans F66 K136 (allS (Or.inr (Nat.le_trans F57.1 gz64)) all0)
      have F139 := own_Ar_keep F67 K136 (ninS (Ne.symm nb64_a2) nin0)
      have F140 := Exa.keep Exo64 K136
      have F141 := Fld.keep gbo64 K136 (ninS (Ne.symm nb64_a46) nin0)
      have F142 := Fld.keep gpo64 K136 (ninS (Ne.symm nb64_a46) nin0)
      have F143 := Fld.keep geo64 K136 (ninS (Ne.symm nb64_a46) nin0)
      have F144 := Exa.keep Exi64 K136
      have hk136 : T136.heap.size ≤ T136.heap.size := Nat.le_refl _
      refine own_tr (B := (T136.setTop (mkF m 239 #[iv p0, iv p1, iv (5 : Int32), iv (0 : Int32), iv (2 : Int32), rv a2, rv a46, iv (1 : Int32), rv b64, iv (2 : Int32)] []))) st136 ?_
      refine own_go (B := (T136.setTop (mkF m 241 #[iv p0, iv p1, iv (5 : Int32), iv (0 : Int32), iv (2 : Int32), rv a2, rv a46, iv (1 : Int32), rv b64, iv (2 : Int32)] [(.int (1 : Int32))]))) (fun t k => XS.iload X136.here hx rfl (hb hby at_239) rfl k) ?_
      have hc241 : ¬ (1 : Int32) = (0 : Int32) := (by decide)
      refine own_ifN X136 hx (hb hby at_241) (pn := 244) rfl hc241 ?_
      refine own_go (B := (T136.setTop (mkF m 246 #[iv p0, iv p1, iv (5 : Int32), iv (0 : Int32), iv (2 : Int32), rv a2, rv a46, iv (1 : Int32), rv b64, iv (2 : Int32)] [(.ref b64)]))) (fun t k => XS.aload X136.here hx rfl (hb hby at_244) rfl rfl k) ?_
      obtain ⟨cq148, kq148, qa148, qb148, qc148⟩ := isOf hZ136 rfl Ex136
      obtain ⟨_, _, ⟨T148, L148, k148, n148⟩, -, X148, ⟨Lc148, hQ148, l148, yy148, zz148⟩, st148⟩ := X136.virtualBack hx (y := own_y17) (z := own_y17) ho136 (mvT hZ136 w_20) (mvT hZ136 w_21) (notFace_of_selects (args := #[]) (mvT hZ136 w_23)) (mvT hZ136 w_23) (mvT hZ136 w_22) (by decide) (backOf (W := 0) (own_ae l Z a0 hw [] b64 (4 : Int32) (7 : Int32) T136.heap n0 gp136 ge136) hZ136 w_24 w_4 (by decide) (by decide)) qa148 qc148 (g := (mkF m 246 #[iv p0, iv p1, iv (5 : Int32), iv (0 : Int32), iv (2 : Int32), rv a2, rv a46, iv (1 : Int32), rv b64, iv (2 : Int32)] [(.ref b64)])) rfl (by rw [hml]; rfl) (Steps.refl _) (argsL := []) (rest := []) (lenOf own_pd12 rfl) rfl (by show 2 * 0 + _ ≤ _; exact own_b rfl) (hb hby at_246) (fun _ _ => ⟨rfl, rfl, (own_b rfl : 7 + 0 ≤ _), (own_b rfl : 70 + 0 ≤ _)⟩)
      dsimp only [Pt.U, Pt.locs, Pt.cells, Pt.slots] at X148 l148 yy148 zz148 st148 hQ148
      obtain ⟨rfl, Nq148, eq148⟩ := hQ148
      obtain ⟨L148, X148, N148⟩ := own_absC (K := 7) (K' := 70) X148 l148 yy148 zz148 N136 Nq148
      have e148 : T148.heap = T136.heap := eq148
      refine own_tr (B := (T148.setTop (mkF m 249 #[iv p0, iv p1, iv (5 : Int32), iv (0 : Int32), iv (2 : Int32), rv a2, rv a46, iv (1 : Int32), rv b64, iv (2 : Int32)] [(.int (own_eqr (4 : Int32) (7 : Int32)))]))) st148 ?_
      rw [show own_eqr (4 : Int32) (7 : Int32) = (0 : Int32) from by decide]
      refine own_go (B := (T148.setTop (mkF m 251 #[iv p0, iv p1, iv (5 : Int32), iv (0 : Int32), iv (2 : Int32), rv a2, rv a46, iv (1 : Int32), rv b64, iv (2 : Int32)] [(.int (2 : Int32)), (.int (0 : Int32))]))) (fun t k => XS.iload X148.here hx rfl (hb hby at_249) rfl k) ?_
      refine own_go (B := (T148.setTop (mkF m 252 #[iv p0, iv p1, iv (5 : Int32), iv (0 : Int32), iv (2 : Int32), rv a2, rv a46, iv (1 : Int32), rv b64, iv (2 : Int32)] [(.int (5 : Int32)), (.int (2 : Int32)), (.int (0 : Int32))]))) (fun t k => XS.iloadN X148.here hx rfl (hb hby at_251) rfl k) ?_
      have hc252 : ¬ (2 : Int32) = (5 : Int32) := (by decide)
      refine own_icmpY X148 hx (hb hby at_252) (pc' := 259) (by decide) (by decide) hc252 ?_
      refine own_go (B := (T148.setTop (mkF m 260 #[iv p0, iv p1, iv (5 : Int32), iv (0 : Int32), iv (2 : Int32), rv a2, rv a46, iv (1 : Int32), rv b64, iv (2 : Int32)] [(.int (0 : Int32)), (.int (0 : Int32))]))) (fun t k => own_iconst (v := (0 : Int32)) X148.here hx rfl (hb hby at_259) (by decide) k) ?_
      have hc260 : (0 : Int32) = (0 : Int32) := (by decide)
      refine own_icmpN X148 hx (hb hby at_260) (pn := 263) rfl hc260 ?_
      refine own_go (B := (T148.setTop (mkF m 264 #[iv p0, iv p1, iv (5 : Int32), iv (0 : Int32), iv (2 : Int32), rv a2, rv a46, iv (1 : Int32), rv b64, iv (2 : Int32)] [(.int (1 : Int32))]))) (fun t k => own_iconst (v := (1 : Int32)) X148.here hx rfl (hb hby at_263) (by decide) k) ?_
      refine own_go (B := (T148.setTop (mkF m 268 #[iv p0, iv p1, iv (5 : Int32), iv (0 : Int32), iv (2 : Int32), rv a2, rv a46, iv (1 : Int32), rv b64, iv (2 : Int32)] [(.int (1 : Int32))]))) (fun t k => XS.goto X148.here hx rfl (pc0 := 264) (pc' := 268) rfl (hb hby at_264) (by decide) (by decide) k) ?_
      refine own_go (B := (T148.setTop (mkF m 270 #[iv p0, iv p1, iv (5 : Int32), iv (0 : Int32), iv (2 : Int32), rv a2, rv a46, iv (1 : Int32), rv b64, iv (2 : Int32)] []))) (fun t k => XS.istore X148.here hx rfl (hb hby at_268) rfl (l' := #[iv p0, iv p1, iv (5 : Int32), iv (0 : Int32), iv (2 : Int32), rv a2, rv a46, iv (1 : Int32), rv b64, iv (2 : Int32)]) rfl k) ?_
      refine own_go (B := (T148.setTop (mkF m 272 #[iv p0, iv p1, iv (5 : Int32), iv (0 : Int32), iv (2 : Int32), rv a2, rv a46, iv (1 : Int32), rv b64, iv (2 : Int32)] [(.int (2 : Int32))]))) (fun t k => XS.iload X148.here hx rfl (hb hby at_270) rfl k) ?_
      refine own_go (B := (T148.setTop (mkF m 273 #[iv p0, iv p1, iv (5 : Int32), iv (0 : Int32), iv (2 : Int32), rv a2, rv a46, iv (1 : Int32), rv b64, iv (2 : Int32)] [(.int (2 : Int32)), (.int (2 : Int32))]))) (fun t k => own_iconst (v := (2 : Int32)) X148.here hx rfl (hb hby at_272) (by decide) k) ?_
      have hc273 : ¬ (2 : Int32) < (2 : Int32) := (by decide)
      refine own_icmpN X148 hx (hb hby at_273) (pn := 276) rfl hc273 ?_
      refine own_go (B := (T148.setTop (mkF m 278 #[iv p0, iv p1, iv (5 : Int32), iv (0 : Int32), iv (2 : Int32), rv a2, rv a46, iv (1 : Int32), rv b64, iv (2 : Int32)] [(.ref b64)]))) (fun t k => XS.aload X148.here hx rfl (hb hby at_276) rfl rfl k) ?_
      refine own_go (B := (T148.setTop (mkF m 279 #[iv p0, iv p1, iv (5 : Int32), iv (0 : Int32), iv (2 : Int32), rv a2, rv a46, iv (1 : Int32), rv b64, iv (2 : Int32)] [(.int (0 : Int32)), (.ref b64)]))) (fun t k => XS.iloadN X148.here hx rfl (hb hby at_278) rfl k) ?_
      obtain ⟨_, _, ⟨T149, L149, k149, n149⟩, -, X149, hs149, hg149, ⟨Lc149, hQ149, l149, yy149, zz149⟩, st149⟩ := callSS X148 hx (y := own_y19) ho136 (mvT hZ136 w_42) (mvT hZ136 w_43) (mvT hZ136 w_44) (mvT hZ136 w_45) (by decide) (backOfS (W := 0) (own_ro0 l Z a0 hw [] b64 a2 (4 : Int32) (7 : Int32) (6 : Int32) (5 : Int32) (0 : Int32) [(.int (48 : Int32)), (.int (5 : Int32)), (.int (5 : Int32)), (.int (0 : Int32)), (.int (5 : Int32)), (.int (0 : Int32)), (.int (5 : Int32)), (.int (0 : Int32))] T136.heap n0 F137 Ex136 gn_b64 gb136 gp136 ge136 F139 (by decide) (by decide) (by decide) rfl (by decide) rfl (by decide) (by decide) (by decide) (by decide)) hZ136 w_45 w_44 (by decide) (by decide)) (g := (mkF m 279 #[iv p0, iv p1, iv (5 : Int32), iv (0 : Int32), iv (2 : Int32), rv a2, rv a46, iv (1 : Int32), rv b64, iv (2 : Int32)] [(.int (0 : Int32)), (.ref b64)])) rfl (by rw [hml]; rfl) (argsL := [(.ref b64), (.int (0 : Int32))]) (rest := []) (lenOf own_pd14 rfl) rfl (by show 2 * 0 + _ ≤ _; exact own_b rfl) (hb hby at_279) (fun _ _ => ⟨rfl, e148, (own_b rfl : 7 + 2 ≤ _), (own_b rfl : 70 + 20 ≤ _)⟩)
      dsimp only [Pt.U, Pt.locs, Pt.cells, Pt.slots] at X149 l149 yy149 zz149 st149 hQ149 hs149 hg149
      obtain ⟨rfl, Nq149, K149, Ex149, gb149, gp149, ge149⟩ := hQ149
      obtain ⟨L149, X149, N149⟩ := own_absC (K := 9) (K' := 90) X149 l149 yy149 zz149 N148 Nq149
      have X149 : Stand p l e room_1 (s.setVm T149.vm) m #[(.int p0), (.int p1)] below meth c T149 L149 9 90 := X149
      have hS149 := foldS hS136 (T := T148) (by rw [e148]; exact hk136) hs149 hg149
      have hZ149 : Z.Warmed39 (s.setVm T149.vm).vm := State.Warmed39.trans (t := s.setVm T136.vm) hZ136 hs149.1
      have ho149 : (s.setVm T149.vm).vm.findClass "com/example/honeybee/honeybee/device/DerReaderAtEndPinLaw" = some m.cls := by rw [show (s.setVm T149.vm).vm = T149.vm from rfl, hs149.1.alike.findClass]; exact ho136
      have F150 : n0 ≤ T149.heap.size := Nat.le_trans F137 K149.1
      have F151 := Keep.trans F138 K149 (allS (Or.inr (Nat.le_trans F57.1 gz64)) all0)
      have F152 := own_Ar_keep F139 K149 (ninS (Ne.symm nb64_a2) nin0)
      have F153 := Exa.keep F140 K149
      have F154 := Fld.keep F141 K149 (ninS (Ne.symm nb64_a46) nin0)
      have F155 := Fld.keep F142 K149 (ninS (Ne.symm nb64_a46) nin0)
      have F156 := Fld.keep F143 K149 (ninS (Ne.symm nb64_a46) nin0)
      have F157 := Exa.keep Ex136 K149
      have hk149 : T149.heap.size ≤ T149.heap.size := Nat.le_refl _
      refine own_tr (B := (T149.setTop (mkF m 282 #[iv p0, iv p1, iv (5 : Int32), iv (0 : Int32), iv (2 : Int32), rv a2, rv a46, iv (1 : Int32), rv b64, iv (2 : Int32)] []))) st149 ?_
      refine own_go (B := (T149.setTop (mkF m 284 #[iv p0, iv p1, iv (5 : Int32), iv (0 : Int32), iv (2 : Int32), rv a2, rv a46, iv (1 : Int32), rv b64, iv (2 : Int32)] [(.int (1 : Int32))]))) (fun t k => XS.iload X149.here hx rfl (hb hby at_282) rfl k) ?_
      have hc284 : ¬ (1 : Int32) = (0 : Int32) := (by decide)
      refine own_ifN X149 hx (hb hby at_284) (pn := 287) rfl hc284 ?_
      refine own_go (B := (T149.setTop (mkF m 289 #[iv p0, iv p1, iv (5 : Int32), iv (0 : Int32), iv (2 : Int32), rv a2, rv a46, iv (1 : Int32), rv b64, iv (2 : Int32)] [(.ref b64)]))) (fun t k => XS.aload X149.here hx rfl (hb hby at_287) rfl rfl k) ?_
      obtain ⟨cq161, kq161, qa161, qb161, qc161⟩ := isOf hZ149 rfl Ex149
      obtain ⟨_, _, ⟨T161, L161, k161, n161⟩, -, X161, ⟨Lc161, hQ161, l161, yy161, zz161⟩, st161⟩ := X149.virtualBack hx (y := own_y17) (z := own_y17) ho149 (mvT hZ149 w_20) (mvT hZ149 w_21) (notFace_of_selects (args := #[]) (mvT hZ149 w_23)) (mvT hZ149 w_23) (mvT hZ149 w_22) (by decide) (backOf (W := 0) (own_ae l Z a0 hw [] b64 (6 : Int32) (7 : Int32) T149.heap n0 gp149 ge149) hZ149 w_24 w_4 (by decide) (by decide)) qa161 qc161 (g := (mkF m 289 #[iv p0, iv p1, iv (5 : Int32), iv (0 : Int32), iv (2 : Int32), rv a2, rv a46, iv (1 : Int32), rv b64, iv (2 : Int32)] [(.ref b64)])) rfl (by rw [hml]; rfl) (Steps.refl _) (argsL := []) (rest := []) (lenOf own_pd12 rfl) rfl (by show 2 * 0 + _ ≤ _; exact own_b rfl) (hb hby at_289) (fun _ _ => ⟨rfl, rfl, (own_b rfl : 9 + 0 ≤ _), (own_b rfl : 90 + 0 ≤ _)⟩)
      dsimp only [Pt.U, Pt.locs, Pt.cells, Pt.slots] at X161 l161 yy161 zz161 st161 hQ161
      obtain ⟨rfl, Nq161, eq161⟩ := hQ161
      obtain ⟨L161, X161, N161⟩ := own_absC (K := 9) (K' := 90) X161 l161 yy161 zz161 N149 Nq161
      have e161 : T161.heap = T149.heap := eq161
      refine own_tr (B := (T161.setTop (mkF m 292 #[iv p0, iv p1, iv (5 : Int32), iv (0 : Int32), iv (2 : Int32), rv a2, rv a46, iv (1 : Int32), rv b64, iv (2 : Int32)] [(.int (own_eqr (6 : Int32) (7 : Int32)))]))) st161 ?_
      rw [show own_eqr (6 : Int32) (7 : Int32) = (0 : Int32) from by decide]
      refine own_go (B := (T161.setTop (mkF m 293 #[iv p0, iv p1, iv (5 : Int32), iv (0 : Int32), iv (2 : Int32), rv a2, rv a46, iv (1 : Int32), rv b64, iv (2 : Int32)] [(.int (2 : Int32)), (.int (0 : Int32))]))) (fun t k => own_iconst (v := (2 : Int32)) X161.here hx rfl (hb hby at_292) (by decide) k) ?_
      refine own_go (B := (T161.setTop (mkF m 295 #[iv p0, iv p1, iv (5 : Int32), iv (0 : Int32), iv (2 : Int32), rv a2, rv a46, iv (1 : Int32), rv b64, iv (2 : Int32)] [(.int (2 : Int32)), (.int (2 : Int32)), (.int (0 : Int32))]))) (fun t k => XS.iload X161.here hx rfl (hb hby at_293) rfl k) ?_
      refine own_go (B := (T161.setTop (mkF m 296 #[iv p0, iv p1, iv (5 : Int32), iv (0 : Int32), iv (2 : Int32), rv a2, rv a46, iv (1 : Int32), rv b64, iv (2 : Int32)] [(.int ((2 : Int32) * (2 : Int32))), (.int (0 : Int32))]))) (fun t k => XS.imul (x := (2 : Int32)) (y := (2 : Int32)) X161.here hx rfl (hb hby at_295) rfl k) ?_
      rw [show ((2 : Int32) * (2 : Int32)) = (4 : Int32) from by decide]
      refine own_go (B := (T161.setTop (mkF m 297 #[iv p0, iv p1, iv (5 : Int32), iv (0 : Int32), iv (2 : Int32), rv a2, rv a46, iv (1 : Int32), rv b64, iv (2 : Int32)] [(.int (5 : Int32)), (.int (4 : Int32)), (.int (0 : Int32))]))) (fun t k => XS.iloadN X161.here hx rfl (hb hby at_296) rfl k) ?_
      have hc297 : ¬ (4 : Int32) = (5 : Int32) := (by decide)
      refine own_icmpY X161 hx (hb hby at_297) (pc' := 304) (by decide) (by decide) hc297 ?_
      refine own_go (B := (T161.setTop (mkF m 305 #[iv p0, iv p1, iv (5 : Int32), iv (0 : Int32), iv (2 : Int32), rv a2, rv a46, iv (1 : Int32), rv b64, iv (2 : Int32)] [(.int (0 : Int32)), (.int (0 : Int32))]))) (fun t k => own_iconst (v := (0 : Int32)) X161.here hx rfl (hb hby at_304) (by decide) k) ?_
      have hc305 : (0 : Int32) = (0 : Int32) := (by decide)
      refine own_icmpN X161 hx (hb hby at_305) (pn := 308) rfl hc305 ?_
      refine own_go (B := (T161.setTop (mkF m 309 #[iv p0, iv p1, iv (5 : Int32), iv (0 : Int32), iv (2 : Int32), rv a2, rv a46, iv (1 : Int32), rv b64, iv (2 : Int32)] [(.int (1 : Int32))]))) (fun t k => own_iconst (v := (1 : Int32)) X161.here hx rfl (hb hby at_308) (by decide) k) ?_
      refine own_go (B := (T161.setTop (mkF m 313 #[iv p0, iv p1, iv (5 : Int32), iv (0 : Int32), iv (2 : Int32), rv a2, rv a46, iv (1 : Int32), rv b64, iv (2 : Int32)] [(.int (1 : Int32))]))) (fun t k => XS.goto X161.here hx rfl (pc0 := 309) (pc' := 313) rfl (hb hby at_309) (by decide) (by decide) k) ?_
      refine own_go (B := (T161.setTop (mkF m 315 #[iv p0, iv p1, iv (5 : Int32), iv (0 : Int32), iv (2 : Int32), rv a2, rv a46, iv (1 : Int32), rv b64, iv (2 : Int32)] []))) (fun t k => XS.istore X161.here hx rfl (hb hby at_313) rfl (l' := #[iv p0, iv p1, iv (5 : Int32), iv (0 : Int32), iv (2 : Int32), rv a2, rv a46, iv (1 : Int32), rv b64, iv (2 : Int32)]) rfl k) ?_
      refine own_go (B := (T161.setTop (mkF m 317 #[iv p0, iv p1, iv (5 : Int32), iv (0 : Int32), iv (2 : Int32), rv a2, rv a46, iv (1 : Int32), rv b64, iv (2 : Int32)] [(.int (2 : Int32))]))) (fun t k => XS.iload X161.here hx rfl (hb hby at_315) rfl k) ?_
      refine own_go (B := (T161.setTop (mkF m 318 #[iv p0, iv p1, iv (5 : Int32), iv (0 : Int32), iv (2 : Int32), rv a2, rv a46, iv (1 : Int32), rv b64, iv (2 : Int32)] [(.int (3 : Int32)), (.int (2 : Int32))]))) (fun t k => own_iconst (v := (3 : Int32)) X161.here hx rfl (hb hby at_317) (by decide) k) ?_
      have hc318 : (2 : Int32) < (3 : Int32) := (by decide)
      refine own_icmpY X161 hx (hb hby at_318) (pc' := 360) (by decide) (by decide) hc318 ?_
      refine own_go (B := (T161.setTop (mkF m 362 #[iv p0, iv p1, iv (5 : Int32), iv (0 : Int32), iv (2 : Int32), rv a2, rv a46, iv (1 : Int32), rv b64, iv (2 : Int32)] [(.int (1 : Int32))]))) (fun t k => XS.iload X161.here hx rfl (hb hby at_360) rfl k) ?_
      exact own_retWZ X161 hx hlk hS149 (by rw [e161]; exact hk149) Bd.returns (hb hby at_362) (by decide) (own_b rfl) (own_b rfl) (Q := (own_law_Q Z p0 p1 zz zm h0 n0)) ⟨rfl, N161⟩
    · obtain rfl : pe = (8 : Int32) := hpe.trans (by decide)
      refine own_go (B := (T64.setTop (mkF m 161 #[iv p0, iv p1, iv (6 : Int32), iv (0 : Int32), iv (2 : Int32), rv a2, rv a46, iv (1 : Int32), rv b64, .unset] []))) (fun t k => XS.astore X64.here hx rfl (hb hby at_159) rfl rfl (l' := #[iv p0, iv p1, iv (6 : Int32), iv (0 : Int32), iv (2 : Int32), rv a2, rv a46, iv (1 : Int32), rv b64, .unset]) rfl k) ?_
      refine own_go (B := (T64.setTop (mkF m 163 #[iv p0, iv p1, iv (6 : Int32), iv (0 : Int32), iv (2 : Int32), rv a2, rv a46, iv (1 : Int32), rv b64, .unset] [(.int (1 : Int32))]))) (fun t k => XS.iload X64.here hx rfl (hb hby at_161) rfl k) ?_
      have hc163 : ¬ (1 : Int32) = (0 : Int32) := (by decide)
      refine own_ifN X64 hx (hb hby at_163) (pn := 166) rfl hc163 ?_
      refine own_go (B := (T64.setTop (mkF m 168 #[iv p0, iv p1, iv (6 : Int32), iv (0 : Int32), iv (2 : Int32), rv a2, rv a46, iv (1 : Int32), rv b64, .unset] [(.ref a46)]))) (fun t k => XS.aload X64.here hx rfl (hb hby at_166) rfl rfl k) ?_
      obtain ⟨cq162, kq162, qa162, qb162, qc162⟩ := isOf hZ64 rfl Exo64
      obtain ⟨_, _, ⟨T162, L162, k162, n162⟩, -, X162, ⟨Lc162, hQ162, l162, yy162, zz162⟩, st162⟩ := X64.virtualBack hx (y := own_y17) (z := own_y17) ho64 (mvT hZ64 w_20) (mvT hZ64 w_21) (notFace_of_selects (args := #[]) (mvT hZ64 w_23)) (mvT hZ64 w_23) (mvT hZ64 w_22) (by decide) (backOf (W := 0) (own_ae l Z a0 hw [] a46 (8 : Int32) (8 : Int32) T64.heap n0 gpo64 geo64) hZ64 w_24 w_4 (by decide) (by decide)) qa162 qc162 (g := (mkF m 168 #[iv p0, iv p1, iv (6 : Int32), iv (0 : Int32), iv (2 : Int32), rv a2, rv a46, iv (1 : Int32), rv b64, .unset] [(.ref a46)])) rfl (by rw [hml]; rfl) (Steps.refl _) (argsL := []) (rest := []) (lenOf own_pd12 rfl) rfl (by show 2 * 0 + _ ≤ _; exact own_b rfl) (hb hby at_168) (fun _ _ => ⟨rfl, rfl, (own_b rfl : 5 + 0 ≤ _), (own_b rfl : 50 + 0 ≤ _)⟩)
      dsimp only [Pt.U, Pt.locs, Pt.cells, Pt.slots] at X162 l162 yy162 zz162 st162 hQ162
      obtain ⟨rfl, Nq162, eq162⟩ := hQ162
      obtain ⟨L162, X162, N162⟩ := own_absC (K := 5) (K' := 50) X162 l162 yy162 zz162 N64 Nq162
      have e162 : T162.heap = T64.heap := eq162
      refine own_tr (B := (T162.setTop (mkF m 171 #[iv p0, iv p1, iv (6 : Int32), iv (0 : Int32), iv (2 : Int32), rv a2, rv a46, iv (1 : Int32), rv b64, .unset] [(.int (own_eqr (8 : Int32) (8 : Int32)))]))) st162 ?_
      rw [show own_eqr (8 : Int32) (8 : Int32) = (1 : Int32) from by decide]
      refine own_go (B := (T162.setTop (mkF m 172 #[iv p0, iv p1, iv (6 : Int32), iv (0 : Int32), iv (2 : Int32), rv a2, rv a46, iv (1 : Int32), rv b64, .unset] [(.int (6 : Int32)), (.int (1 : Int32))]))) (fun t k => XS.iloadN X162.here hx rfl (hb hby at_171) rfl k) ?_
      refine own_go (B := (T162.setTop (mkF m 174 #[iv p0, iv p1, iv (6 : Int32), iv (0 : Int32), iv (2 : Int32), rv a2, rv a46, iv (1 : Int32), rv b64, .unset] [(.int (6 : Int32)), (.int (6 : Int32)), (.int (1 : Int32))]))) (fun t k => own_bipush (v := (6 : Int32)) X162.here hx rfl (hb hby at_172) (by decide) k) ?_
      have hc174 : (6 : Int32) = (6 : Int32) := (by decide)
      refine own_icmpN X162 hx (hb hby at_174) (pn := 177) rfl hc174 ?_
      refine own_go (B := (T162.setTop (mkF m 178 #[iv p0, iv p1, iv (6 : Int32), iv (0 : Int32), iv (2 : Int32), rv a2, rv a46, iv (1 : Int32), rv b64, .unset] [(.int (1 : Int32)), (.int (1 : Int32))]))) (fun t k => own_iconst (v := (1 : Int32)) X162.here hx rfl (hb hby at_177) (by decide) k) ?_
      refine own_go (B := (T162.setTop (mkF m 182 #[iv p0, iv p1, iv (6 : Int32), iv (0 : Int32), iv (2 : Int32), rv a2, rv a46, iv (1 : Int32), rv b64, .unset] [(.int (1 : Int32)), (.int (1 : Int32))]))) (fun t k => XS.goto X162.here hx rfl (pc0 := 178) (pc' := 182) rfl (hb hby at_178) (by decide) (by decide) k) ?_
      have hc182 : (1 : Int32) = (1 : Int32) := (by decide)
      refine own_icmpN X162 hx (hb hby at_182) (pn := 185) rfl hc182 ?_
      refine own_go (B := (T162.setTop (mkF m 186 #[iv p0, iv p1, iv (6 : Int32), iv (0 : Int32), iv (2 : Int32), rv a2, rv a46, iv (1 : Int32), rv b64, .unset] [(.int (1 : Int32))]))) (fun t k => own_iconst (v := (1 : Int32)) X162.here hx rfl (hb hby at_185) (by decide) k) ?_
      refine own_go (B := (T162.setTop (mkF m 190 #[iv p0, iv p1, iv (6 : Int32), iv (0 : Int32), iv (2 : Int32), rv a2, rv a46, iv (1 : Int32), rv b64, .unset] [(.int (1 : Int32))]))) (fun t k => XS.goto X162.here hx rfl (pc0 := 186) (pc' := 190) rfl (hb hby at_186) (by decide) (by decide) k) ?_
      refine own_go (B := (T162.setTop (mkF m 192 #[iv p0, iv p1, iv (6 : Int32), iv (0 : Int32), iv (2 : Int32), rv a2, rv a46, iv (1 : Int32), rv b64, .unset] []))) (fun t k => XS.istore X162.here hx rfl (hb hby at_190) rfl (l' := #[iv p0, iv p1, iv (6 : Int32), iv (0 : Int32), iv (2 : Int32), rv a2, rv a46, iv (1 : Int32), rv b64, .unset]) rfl k) ?_
      refine own_go (B := (T162.setTop (mkF m 194 #[iv p0, iv p1, iv (6 : Int32), iv (0 : Int32), iv (2 : Int32), rv a2, rv a46, iv (1 : Int32), rv b64, .unset] [(.int (1 : Int32))]))) (fun t k => XS.iload X162.here hx rfl (hb hby at_192) rfl k) ?_
      have hc194 : ¬ (1 : Int32) = (0 : Int32) := (by decide)
      refine own_ifN X162 hx (hb hby at_194) (pn := 197) rfl hc194 ?_
      refine own_go (B := (T162.setTop (mkF m 199 #[iv p0, iv p1, iv (6 : Int32), iv (0 : Int32), iv (2 : Int32), rv a2, rv a46, iv (1 : Int32), rv b64, .unset] [(.ref b64)]))) (fun t k => XS.aload X162.here hx rfl (hb hby at_197) rfl rfl k) ?_
      obtain ⟨cq163, kq163, qa163, qb163, qc163⟩ := isOf hZ64 e162 Exi64
      obtain ⟨_, _, ⟨T163, L163, k163, n163⟩, -, X163, ⟨Lc163, hQ163, l163, yy163, zz163⟩, st163⟩ := X162.virtualBack hx (y := own_y17) (z := own_y17) ho64 (mvT hZ64 w_20) (mvT hZ64 w_21) (notFace_of_selects (args := #[]) (mvT hZ64 w_23)) (mvT hZ64 w_23) (mvT hZ64 w_22) (by decide) (backOf (W := 0) (own_ae l Z a0 hw [] b64 (2 : Int32) (8 : Int32) T64.heap n0 gpi64 gei64) hZ64 w_24 w_4 (by decide) (by decide)) qa163 qc163 (g := (mkF m 199 #[iv p0, iv p1, iv (6 : Int32), iv (0 : Int32), iv (2 : Int32), rv a2, rv a46, iv (1 : Int32), rv b64, .unset] [(.ref b64)])) rfl (by rw [hml]; rfl) (Steps.refl _) (argsL := []) (rest := []) (lenOf own_pd12 rfl) rfl (by show 2 * 0 + _ ≤ _; exact own_b rfl) (hb hby at_199) (fun _ _ => ⟨rfl, e162, (own_b rfl : 5 + 0 ≤ _), (own_b rfl : 50 + 0 ≤ _)⟩)
      dsimp only [Pt.U, Pt.locs, Pt.cells, Pt.slots] at X163 l163 yy163 zz163 st163 hQ163
      obtain ⟨rfl, Nq163, eq163⟩ := hQ163
      obtain ⟨L163, X163, N163⟩ := own_absC (K := 5) (K' := 50) X163 l163 yy163 zz163 N162 Nq163
      have e163 : T163.heap = T64.heap := eq163
      refine own_tr (B := (T163.setTop (mkF m 202 #[iv p0, iv p1, iv (6 : Int32), iv (0 : Int32), iv (2 : Int32), rv a2, rv a46, iv (1 : Int32), rv b64, .unset] [(.int (own_eqr (2 : Int32) (8 : Int32)))]))) st163 ?_
      rw [show own_eqr (2 : Int32) (8 : Int32) = (0 : Int32) from by decide]
      refine own_go (B := (T163.setTop (mkF m 203 #[iv p0, iv p1, iv (6 : Int32), iv (0 : Int32), iv (2 : Int32), rv a2, rv a46, iv (1 : Int32), rv b64, .unset] [(.int (6 : Int32)), (.int (0 : Int32))]))) (fun t k => XS.iloadN X163.here hx rfl (hb hby at_202) rfl k) ?_
      have hc203 : ¬ (6 : Int32) = (0 : Int32) := (by decide)
      refine own_ifY X163 hx (hb hby at_203) (pc' := 210) (by decide) (by decide) hc203 ?_
      refine own_go (B := (T163.setTop (mkF m 211 #[iv p0, iv p1, iv (6 : Int32), iv (0 : Int32), iv (2 : Int32), rv a2, rv a46, iv (1 : Int32), rv b64, .unset] [(.int (0 : Int32)), (.int (0 : Int32))]))) (fun t k => own_iconst (v := (0 : Int32)) X163.here hx rfl (hb hby at_210) (by decide) k) ?_
      have hc211 : (0 : Int32) = (0 : Int32) := (by decide)
      refine own_icmpN X163 hx (hb hby at_211) (pn := 214) rfl hc211 ?_
      refine own_go (B := (T163.setTop (mkF m 215 #[iv p0, iv p1, iv (6 : Int32), iv (0 : Int32), iv (2 : Int32), rv a2, rv a46, iv (1 : Int32), rv b64, .unset] [(.int (1 : Int32))]))) (fun t k => own_iconst (v := (1 : Int32)) X163.here hx rfl (hb hby at_214) (by decide) k) ?_
      refine own_go (B := (T163.setTop (mkF m 219 #[iv p0, iv p1, iv (6 : Int32), iv (0 : Int32), iv (2 : Int32), rv a2, rv a46, iv (1 : Int32), rv b64, .unset] [(.int (1 : Int32))]))) (fun t k => XS.goto X163.here hx rfl (pc0 := 215) (pc' := 219) rfl (hb hby at_215) (by decide) (by decide) k) ?_
      refine own_go (B := (T163.setTop (mkF m 221 #[iv p0, iv p1, iv (6 : Int32), iv (0 : Int32), iv (2 : Int32), rv a2, rv a46, iv (1 : Int32), rv b64, .unset] []))) (fun t k => XS.istore X163.here hx rfl (hb hby at_219) rfl (l' := #[iv p0, iv p1, iv (6 : Int32), iv (0 : Int32), iv (2 : Int32), rv a2, rv a46, iv (1 : Int32), rv b64, .unset]) rfl k) ?_
      refine own_go (B := (T163.setTop (mkF m 222 #[iv p0, iv p1, iv (6 : Int32), iv (0 : Int32), iv (2 : Int32), rv a2, rv a46, iv (1 : Int32), rv b64, .unset] [(.int (6 : Int32))]))) (fun t k => XS.iloadN X163.here hx rfl (hb hby at_221) rfl k) ?_
      refine own_go (B := (T163.setTop (mkF m 224 #[iv p0, iv p1, iv (6 : Int32), iv (0 : Int32), iv (2 : Int32), rv a2, rv a46, iv (1 : Int32), rv b64, .unset] [(.int (2 : Int32)), (.int (6 : Int32))]))) (fun t k => XS.iload X163.here hx rfl (hb hby at_222) rfl k) ?_
      refine own_go (B := (T163.setTop (mkF m 225 #[iv p0, iv p1, iv (6 : Int32), iv (0 : Int32), iv (2 : Int32), rv a2, rv a46, iv (1 : Int32), rv b64, .unset] [(.int ((6 : Int32) / (2 : Int32)))]))) (fun t k => XS.idiv (x := (6 : Int32)) (y := (2 : Int32)) X163.here hx rfl (hb hby at_224) rfl (by decide) k) ?_
      rw [show ((6 : Int32) / (2 : Int32)) = (3 : Int32) from by decide]
      refine own_go (B := (T163.setTop (mkF m 227 #[iv p0, iv p1, iv (6 : Int32), iv (0 : Int32), iv (2 : Int32), rv a2, rv a46, iv (1 : Int32), rv b64, iv (3 : Int32)] []))) (fun t k => XS.istore X163.here hx rfl (hb hby at_225) rfl (l' := #[iv p0, iv p1, iv (6 : Int32), iv (0 : Int32), iv (2 : Int32), rv a2, rv a46, iv (1 : Int32), rv b64, iv (3 : Int32)]) rfl k) ?_
      refine own_go (B := (T163.setTop (mkF m 229 #[iv p0, iv p1, iv (6 : Int32), iv (0 : Int32), iv (2 : Int32), rv a2, rv a46, iv (1 : Int32), rv b64, iv (3 : Int32)] [(.int (3 : Int32))]))) (fun t k => XS.iload X163.here hx rfl (hb hby at_227) rfl k) ?_
      refine own_go (B := (T163.setTop (mkF m 230 #[iv p0, iv p1, iv (6 : Int32), iv (0 : Int32), iv (2 : Int32), rv a2, rv a46, iv (1 : Int32), rv b64, iv (3 : Int32)] [(.int (1 : Int32)), (.int (3 : Int32))]))) (fun t k => own_iconst (v := (1 : Int32)) X163.here hx rfl (hb hby at_229) (by decide) k) ?_
      have hc230 : ¬ (3 : Int32) < (1 : Int32) := (by decide)
      refine own_icmpN X163 hx (hb hby at_230) (pn := 233) rfl hc230 ?_
      refine own_go (B := (T163.setTop (mkF m 235 #[iv p0, iv p1, iv (6 : Int32), iv (0 : Int32), iv (2 : Int32), rv a2, rv a46, iv (1 : Int32), rv b64, iv (3 : Int32)] [(.ref b64)]))) (fun t k => XS.aload X163.here hx rfl (hb hby at_233) rfl rfl k) ?_
      refine own_go (B := (T163.setTop (mkF m 236 #[iv p0, iv p1, iv (6 : Int32), iv (0 : Int32), iv (2 : Int32), rv a2, rv a46, iv (1 : Int32), rv b64, iv (3 : Int32)] [(.int (0 : Int32)), (.ref b64)]))) (fun t k => XS.iloadN X163.here hx rfl (hb hby at_235) rfl k) ?_
      obtain ⟨_, _, ⟨T164, L164, k164, n164⟩, -, X164, hs164, hg164, ⟨Lc164, hQ164, l164, yy164, zz164⟩, st164⟩ := callSS X163 hx (y := own_y19) ho64 (mvT hZ64 w_42) (mvT hZ64 w_43) (mvT hZ64 w_44) (mvT hZ64 w_45) (by decide) (backOfS (W := 0) (own_ro0 l Z a0 hw [] b64 a2 (2 : Int32) (8 : Int32) (4 : Int32) (5 : Int32) (0 : Int32) [(.int (48 : Int32)), (.int (6 : Int32)), (.int (5 : Int32)), (.int (0 : Int32)), (.int (5 : Int32)), (.int (0 : Int32)), (.int (5 : Int32)), (.int (0 : Int32))] T64.heap n0 F65 Exi64 gn_b64 gbi64 gpi64 gei64 F67 (by decide) (by decide) (by decide) rfl (by decide) rfl (by decide) (by decide) (by decide) (by decide)) hZ64 w_45 w_44 (by decide) (by decide)) (g := (mkF m 236 #[iv p0, iv p1, iv (6 : Int32), iv (0 : Int32), iv (2 : Int32), rv a2, rv a46, iv (1 : Int32), rv b64, iv (3 : Int32)] [(.int (0 : Int32)), (.ref b64)])) rfl (by rw [hml]; rfl) (argsL := [(.ref b64), (.int (0 : Int32))]) (rest := []) (lenOf own_pd14 rfl) rfl (by show 2 * 0 + _ ≤ _; exact own_b rfl) (hb hby at_236) (fun _ _ => ⟨rfl, e163, (own_b rfl : 5 + 2 ≤ _), (own_b rfl : 50 + 20 ≤ _)⟩)
      dsimp only [Pt.U, Pt.locs, Pt.cells, Pt.slots] at X164 l164 yy164 zz164 st164 hQ164 hs164 hg164
      obtain ⟨rfl, Nq164, K164, Ex164, gb164, gp164, ge164⟩ := hQ164
      obtain ⟨L164, X164, N164⟩ := own_absC (K := 7) (K' := 70) X164 l164 yy164 zz164 N163 Nq164
      have X164 : Stand p l e room_1 (s.setVm T164.vm) m #[(.int p0), (.int p1)] below meth c T164 L164 7 70 := X164
      have hS164 := foldS hS64 (T := T163) (by rw [e163]; exact hk64) hs164 hg164
      have hZ164 : Z.Warmed39 (s.setVm T164.vm).vm := State.Warmed39.trans (t := s.setVm T64.vm) hZ64 hs164.1
      have ho164 : (s.setVm T164.vm).vm.findClass "com/example/honeybee/honeybee/device/DerReaderAtEndPinLaw" = some m.cls := by rw [show (s.setVm T164.vm).vm = T164.vm from rfl, hs164.1.alike.findClass]; exact ho64
      have F165 : n0 ≤ T164.heap.size := Nat.le_trans F65 K164.1
      have F166 := Keep.trans F66 K164 (allS (Or.inr (Nat.le_trans F57.1 gz64)) all0)
      have F167 := own_Ar_keep F67 K164 (ninS (Ne.symm nb64_a2) nin0)
      have F168 := Exa.keep Exo64 K164
      have F169 := Fld.keep gbo64 K164 (ninS (Ne.symm nb64_a46) nin0)
      have F170 := Fld.keep gpo64 K164 (ninS (Ne.symm nb64_a46) nin0)
      have F171 := Fld.keep geo64 K164 (ninS (Ne.symm nb64_a46) nin0)
      have F172 := Exa.keep Exi64 K164
      have hk164 : T164.heap.size ≤ T164.heap.size := Nat.le_refl _
      refine own_tr (B := (T164.setTop (mkF m 239 #[iv p0, iv p1, iv (6 : Int32), iv (0 : Int32), iv (2 : Int32), rv a2, rv a46, iv (1 : Int32), rv b64, iv (3 : Int32)] []))) st164 ?_
      refine own_go (B := (T164.setTop (mkF m 241 #[iv p0, iv p1, iv (6 : Int32), iv (0 : Int32), iv (2 : Int32), rv a2, rv a46, iv (1 : Int32), rv b64, iv (3 : Int32)] [(.int (1 : Int32))]))) (fun t k => XS.iload X164.here hx rfl (hb hby at_239) rfl k) ?_
      have hc241 : ¬ (1 : Int32) = (0 : Int32) := (by decide)
      refine own_ifN X164 hx (hb hby at_241) (pn := 244) rfl hc241 ?_
      refine own_go (B := (T164.setTop (mkF m 246 #[iv p0, iv p1, iv (6 : Int32), iv (0 : Int32), iv (2 : Int32), rv a2, rv a46, iv (1 : Int32), rv b64, iv (3 : Int32)] [(.ref b64)]))) (fun t k => XS.aload X164.here hx rfl (hb hby at_244) rfl rfl k) ?_
      obtain ⟨cq176, kq176, qa176, qb176, qc176⟩ := isOf hZ164 rfl Ex164
      obtain ⟨_, _, ⟨T176, L176, k176, n176⟩, -, X176, ⟨Lc176, hQ176, l176, yy176, zz176⟩, st176⟩ := X164.virtualBack hx (y := own_y17) (z := own_y17) ho164 (mvT hZ164 w_20) (mvT hZ164 w_21) (notFace_of_selects (args := #[]) (mvT hZ164 w_23)) (mvT hZ164 w_23) (mvT hZ164 w_22) (by decide) (backOf (W := 0) (own_ae l Z a0 hw [] b64 (4 : Int32) (8 : Int32) T164.heap n0 gp164 ge164) hZ164 w_24 w_4 (by decide) (by decide)) qa176 qc176 (g := (mkF m 246 #[iv p0, iv p1, iv (6 : Int32), iv (0 : Int32), iv (2 : Int32), rv a2, rv a46, iv (1 : Int32), rv b64, iv (3 : Int32)] [(.ref b64)])) rfl (by rw [hml]; rfl) (Steps.refl _) (argsL := []) (rest := []) (lenOf own_pd12 rfl) rfl (by show 2 * 0 + _ ≤ _; exact own_b rfl) (hb hby at_246) (fun _ _ => ⟨rfl, rfl, (own_b rfl : 7 + 0 ≤ _), (own_b rfl : 70 + 0 ≤ _)⟩)
      dsimp only [Pt.U, Pt.locs, Pt.cells, Pt.slots] at X176 l176 yy176 zz176 st176 hQ176
      obtain ⟨rfl, Nq176, eq176⟩ := hQ176
      obtain ⟨L176, X176, N176⟩ := own_absC (K := 7) (K' := 70) X176 l176 yy176 zz176 N164 Nq176
      have e176 : T176.heap = T164.heap := eq176
      refine own_tr (B := (T176.setTop (mkF m 249 #[iv p0, iv p1, iv (6 : Int32), iv (0 : Int32), iv (2 : Int32), rv a2, rv a46, iv (1 : Int32), rv b64, iv (3 : Int32)] [(.int (own_eqr (4 : Int32) (8 : Int32)))]))) st176 ?_
      rw [show own_eqr (4 : Int32) (8 : Int32) = (0 : Int32) from by decide]
      refine own_go (B := (T176.setTop (mkF m 251 #[iv p0, iv p1, iv (6 : Int32), iv (0 : Int32), iv (2 : Int32), rv a2, rv a46, iv (1 : Int32), rv b64, iv (3 : Int32)] [(.int (2 : Int32)), (.int (0 : Int32))]))) (fun t k => XS.iload X176.here hx rfl (hb hby at_249) rfl k) ?_
      refine own_go (B := (T176.setTop (mkF m 252 #[iv p0, iv p1, iv (6 : Int32), iv (0 : Int32), iv (2 : Int32), rv a2, rv a46, iv (1 : Int32), rv b64, iv (3 : Int32)] [(.int (6 : Int32)), (.int (2 : Int32)), (.int (0 : Int32))]))) (fun t k => XS.iloadN X176.here hx rfl (hb hby at_251) rfl k) ?_
      have hc252 : ¬ (2 : Int32) = (6 : Int32) := (by decide)
      refine own_icmpY X176 hx (hb hby at_252) (pc' := 259) (by decide) (by decide) hc252 ?_
      refine own_go (B := (T176.setTop (mkF m 260 #[iv p0, iv p1, iv (6 : Int32), iv (0 : Int32), iv (2 : Int32), rv a2, rv a46, iv (1 : Int32), rv b64, iv (3 : Int32)] [(.int (0 : Int32)), (.int (0 : Int32))]))) (fun t k => own_iconst (v := (0 : Int32)) X176.here hx rfl (hb hby at_259) (by decide) k) ?_
      have hc260 : (0 : Int32) = (0 : Int32) := (by decide)
      refine own_icmpN X176 hx (hb hby at_260) (pn := 263) rfl hc260 ?_
      refine own_go (B := (T176.setTop (mkF m 264 #[iv p0, iv p1, iv (6 : Int32), iv (0 : Int32), iv (2 : Int32), rv a2, rv a46, iv (1 : Int32), rv b64, iv (3 : Int32)] [(.int (1 : Int32))]))) (fun t k => own_iconst (v := (1 : Int32)) X176.here hx rfl (hb hby at_263) (by decide) k) ?_
      refine own_go (B := (T176.setTop (mkF m 268 #[iv p0, iv p1, iv (6 : Int32), iv (0 : Int32), iv (2 : Int32), rv a2, rv a46, iv (1 : Int32), rv b64, iv (3 : Int32)] [(.int (1 : Int32))]))) (fun t k => XS.goto X176.here hx rfl (pc0 := 264) (pc' := 268) rfl (hb hby at_264) (by decide) (by decide) k) ?_
      refine own_go (B := (T176.setTop (mkF m 270 #[iv p0, iv p1, iv (6 : Int32), iv (0 : Int32), iv (2 : Int32), rv a2, rv a46, iv (1 : Int32), rv b64, iv (3 : Int32)] []))) (fun t k => XS.istore X176.here hx rfl (hb hby at_268) rfl (l' := #[iv p0, iv p1, iv (6 : Int32), iv (0 : Int32), iv (2 : Int32), rv a2, rv a46, iv (1 : Int32), rv b64, iv (3 : Int32)]) rfl k) ?_
      refine own_go (B := (T176.setTop (mkF m 272 #[iv p0, iv p1, iv (6 : Int32), iv (0 : Int32), iv (2 : Int32), rv a2, rv a46, iv (1 : Int32), rv b64, iv (3 : Int32)] [(.int (3 : Int32))]))) (fun t k => XS.iload X176.here hx rfl (hb hby at_270) rfl k) ?_
      refine own_go (B := (T176.setTop (mkF m 273 #[iv p0, iv p1, iv (6 : Int32), iv (0 : Int32), iv (2 : Int32), rv a2, rv a46, iv (1 : Int32), rv b64, iv (3 : Int32)] [(.int (2 : Int32)), (.int (3 : Int32))]))) (fun t k => own_iconst (v := (2 : Int32)) X176.here hx rfl (hb hby at_272) (by decide) k) ?_
      have hc273 : ¬ (3 : Int32) < (2 : Int32) := (by decide)
      refine own_icmpN X176 hx (hb hby at_273) (pn := 276) rfl hc273 ?_
      refine own_go (B := (T176.setTop (mkF m 278 #[iv p0, iv p1, iv (6 : Int32), iv (0 : Int32), iv (2 : Int32), rv a2, rv a46, iv (1 : Int32), rv b64, iv (3 : Int32)] [(.ref b64)]))) (fun t k => XS.aload X176.here hx rfl (hb hby at_276) rfl rfl k) ?_
      refine own_go (B := (T176.setTop (mkF m 279 #[iv p0, iv p1, iv (6 : Int32), iv (0 : Int32), iv (2 : Int32), rv a2, rv a46, iv (1 : Int32), rv b64, iv (3 : Int32)] [(.int (0 : Int32)), (.ref b64)]))) (fun t k => XS.iloadN X176.here hx rfl (hb hby at_278) rfl k) ?_
      obtain ⟨_, _, ⟨T177, L177, k177, n177⟩, -, X177, hs177, hg177, ⟨Lc177, hQ177, l177, yy177, zz177⟩, st177⟩ := callSS X176 hx (y := own_y19) ho164 (mvT hZ164 w_42) (mvT hZ164 w_43) (mvT hZ164 w_44) (mvT hZ164 w_45) (by decide) (backOfS (W := 0) (own_ro0 l Z a0 hw [] b64 a2 (4 : Int32) (8 : Int32) (6 : Int32) (5 : Int32) (0 : Int32) [(.int (48 : Int32)), (.int (6 : Int32)), (.int (5 : Int32)), (.int (0 : Int32)), (.int (5 : Int32)), (.int (0 : Int32)), (.int (5 : Int32)), (.int (0 : Int32))] T164.heap n0 F165 Ex164 gn_b64 gb164 gp164 ge164 F167 (by decide) (by decide) (by decide) rfl (by decide) rfl (by decide) (by decide) (by decide) (by decide)) hZ164 w_45 w_44 (by decide) (by decide)) (g := (mkF m 279 #[iv p0, iv p1, iv (6 : Int32), iv (0 : Int32), iv (2 : Int32), rv a2, rv a46, iv (1 : Int32), rv b64, iv (3 : Int32)] [(.int (0 : Int32)), (.ref b64)])) rfl (by rw [hml]; rfl) (argsL := [(.ref b64), (.int (0 : Int32))]) (rest := []) (lenOf own_pd14 rfl) rfl (by show 2 * 0 + _ ≤ _; exact own_b rfl) (hb hby at_279) (fun _ _ => ⟨rfl, e176, (own_b rfl : 7 + 2 ≤ _), (own_b rfl : 70 + 20 ≤ _)⟩)
      dsimp only [Pt.U, Pt.locs, Pt.cells, Pt.slots] at X177 l177 yy177 zz177 st177 hQ177 hs177 hg177
      obtain ⟨rfl, Nq177, K177, Ex177, gb177, gp177, ge177⟩ := hQ177
      obtain ⟨L177, X177, N177⟩ := own_absC (K := 9) (K' := 90) X177 l177 yy177 zz177 N176 Nq177
      have X177 : Stand p l e room_1 (s.setVm T177.vm) m #[(.int p0), (.int p1)] below meth c T177 L177 9 90 := X177
      have hS177 := foldS hS164 (T := T176) (by rw [e176]; exact hk164) hs177 hg177
      have hZ177 : Z.Warmed39 (s.setVm T177.vm).vm := State.Warmed39.trans (t := s.setVm T164.vm) hZ164 hs177.1
      have ho177 : (s.setVm T177.vm).vm.findClass "com/example/honeybee/honeybee/device/DerReaderAtEndPinLaw" = some m.cls := by rw [show (s.setVm T177.vm).vm = T177.vm from rfl, hs177.1.alike.findClass]; exact ho164
      have F178 : n0 ≤ T177.heap.size := Nat.le_trans F165 K177.1
      have F179 := Keep.trans F166 K177 (allS (Or.inr (Nat.le_trans F57.1 gz64)) all0)
      have F180 := own_Ar_keep F167 K177 (ninS (Ne.symm nb64_a2) nin0)
      have F181 := Exa.keep F168 K177
      have F182 := Fld.keep F169 K177 (ninS (Ne.symm nb64_a46) nin0)
      have F183 := Fld.keep F170 K177 (ninS (Ne.symm nb64_a46) nin0)
      have F184 := Fld.keep F171 K177 (ninS (Ne.symm nb64_a46) nin0)
      have F185 := Exa.keep Ex164 K177
      have hk177 : T177.heap.size ≤ T177.heap.size := Nat.le_refl _
      refine own_tr (B := (T177.setTop (mkF m 282 #[iv p0, iv p1, iv (6 : Int32), iv (0 : Int32), iv (2 : Int32), rv a2, rv a46, iv (1 : Int32), rv b64, iv (3 : Int32)] []))) st177 ?_
      refine own_go (B := (T177.setTop (mkF m 284 #[iv p0, iv p1, iv (6 : Int32), iv (0 : Int32), iv (2 : Int32), rv a2, rv a46, iv (1 : Int32), rv b64, iv (3 : Int32)] [(.int (1 : Int32))]))) (fun t k => XS.iload X177.here hx rfl (hb hby at_282) rfl k) ?_
      have hc284 : ¬ (1 : Int32) = (0 : Int32) := (by decide)
      refine own_ifN X177 hx (hb hby at_284) (pn := 287) rfl hc284 ?_
      refine own_go (B := (T177.setTop (mkF m 289 #[iv p0, iv p1, iv (6 : Int32), iv (0 : Int32), iv (2 : Int32), rv a2, rv a46, iv (1 : Int32), rv b64, iv (3 : Int32)] [(.ref b64)]))) (fun t k => XS.aload X177.here hx rfl (hb hby at_287) rfl rfl k) ?_
      obtain ⟨cq189, kq189, qa189, qb189, qc189⟩ := isOf hZ177 rfl Ex177
      obtain ⟨_, _, ⟨T189, L189, k189, n189⟩, -, X189, ⟨Lc189, hQ189, l189, yy189, zz189⟩, st189⟩ := X177.virtualBack hx (y := own_y17) (z := own_y17) ho177 (mvT hZ177 w_20) (mvT hZ177 w_21) (notFace_of_selects (args := #[]) (mvT hZ177 w_23)) (mvT hZ177 w_23) (mvT hZ177 w_22) (by decide) (backOf (W := 0) (own_ae l Z a0 hw [] b64 (6 : Int32) (8 : Int32) T177.heap n0 gp177 ge177) hZ177 w_24 w_4 (by decide) (by decide)) qa189 qc189 (g := (mkF m 289 #[iv p0, iv p1, iv (6 : Int32), iv (0 : Int32), iv (2 : Int32), rv a2, rv a46, iv (1 : Int32), rv b64, iv (3 : Int32)] [(.ref b64)])) rfl (by rw [hml]; rfl) (Steps.refl _) (argsL := []) (rest := []) (lenOf own_pd12 rfl) rfl (by show 2 * 0 + _ ≤ _; exact own_b rfl) (hb hby at_289) (fun _ _ => ⟨rfl, rfl, (own_b rfl : 9 + 0 ≤ _), (own_b rfl : 90 + 0 ≤ _)⟩)
      dsimp only [Pt.U, Pt.locs, Pt.cells, Pt.slots] at X189 l189 yy189 zz189 st189 hQ189
      obtain ⟨rfl, Nq189, eq189⟩ := hQ189
      obtain ⟨L189, X189, N189⟩ := own_absC (K := 9) (K' := 90) X189 l189 yy189 zz189 N177 Nq189
      have e189 : T189.heap = T177.heap := eq189
      refine own_tr (B := (T189.setTop (mkF m 292 #[iv p0, iv p1, iv (6 : Int32), iv (0 : Int32), iv (2 : Int32), rv a2, rv a46, iv (1 : Int32), rv b64, iv (3 : Int32)] [(.int (own_eqr (6 : Int32) (8 : Int32)))]))) st189 ?_
      rw [show own_eqr (6 : Int32) (8 : Int32) = (0 : Int32) from by decide]
      refine own_go (B := (T189.setTop (mkF m 293 #[iv p0, iv p1, iv (6 : Int32), iv (0 : Int32), iv (2 : Int32), rv a2, rv a46, iv (1 : Int32), rv b64, iv (3 : Int32)] [(.int (2 : Int32)), (.int (0 : Int32))]))) (fun t k => own_iconst (v := (2 : Int32)) X189.here hx rfl (hb hby at_292) (by decide) k) ?_
      refine own_go (B := (T189.setTop (mkF m 295 #[iv p0, iv p1, iv (6 : Int32), iv (0 : Int32), iv (2 : Int32), rv a2, rv a46, iv (1 : Int32), rv b64, iv (3 : Int32)] [(.int (2 : Int32)), (.int (2 : Int32)), (.int (0 : Int32))]))) (fun t k => XS.iload X189.here hx rfl (hb hby at_293) rfl k) ?_
      refine own_go (B := (T189.setTop (mkF m 296 #[iv p0, iv p1, iv (6 : Int32), iv (0 : Int32), iv (2 : Int32), rv a2, rv a46, iv (1 : Int32), rv b64, iv (3 : Int32)] [(.int ((2 : Int32) * (2 : Int32))), (.int (0 : Int32))]))) (fun t k => XS.imul (x := (2 : Int32)) (y := (2 : Int32)) X189.here hx rfl (hb hby at_295) rfl k) ?_
      rw [show ((2 : Int32) * (2 : Int32)) = (4 : Int32) from by decide]
      refine own_go (B := (T189.setTop (mkF m 297 #[iv p0, iv p1, iv (6 : Int32), iv (0 : Int32), iv (2 : Int32), rv a2, rv a46, iv (1 : Int32), rv b64, iv (3 : Int32)] [(.int (6 : Int32)), (.int (4 : Int32)), (.int (0 : Int32))]))) (fun t k => XS.iloadN X189.here hx rfl (hb hby at_296) rfl k) ?_
      have hc297 : ¬ (4 : Int32) = (6 : Int32) := (by decide)
      refine own_icmpY X189 hx (hb hby at_297) (pc' := 304) (by decide) (by decide) hc297 ?_
      refine own_go (B := (T189.setTop (mkF m 305 #[iv p0, iv p1, iv (6 : Int32), iv (0 : Int32), iv (2 : Int32), rv a2, rv a46, iv (1 : Int32), rv b64, iv (3 : Int32)] [(.int (0 : Int32)), (.int (0 : Int32))]))) (fun t k => own_iconst (v := (0 : Int32)) X189.here hx rfl (hb hby at_304) (by decide) k) ?_
      have hc305 : (0 : Int32) = (0 : Int32) := (by decide)
      refine own_icmpN X189 hx (hb hby at_305) (pn := 308) rfl hc305 ?_
      refine own_go (B := (T189.setTop (mkF m 309 #[iv p0, iv p1, iv (6 : Int32), iv (0 : Int32), iv (2 : Int32), rv a2, rv a46, iv (1 : Int32), rv b64, iv (3 : Int32)] [(.int (1 : Int32))]))) (fun t k => own_iconst (v := (1 : Int32)) X189.here hx rfl (hb hby at_308) (by decide) k) ?_
      refine own_go (B := (T189.setTop (mkF m 313 #[iv p0, iv p1, iv (6 : Int32), iv (0 : Int32), iv (2 : Int32), rv a2, rv a46, iv (1 : Int32), rv b64, iv (3 : Int32)] [(.int (1 : Int32))]))) (fun t k => XS.goto X189.here hx rfl (pc0 := 309) (pc' := 313) rfl (hb hby at_309) (by decide) (by decide) k) ?_
      refine own_go (B := (T189.setTop (mkF m 315 #[iv p0, iv p1, iv (6 : Int32), iv (0 : Int32), iv (2 : Int32), rv a2, rv a46, iv (1 : Int32), rv b64, iv (3 : Int32)] []))) (fun t k => XS.istore X189.here hx rfl (hb hby at_313) rfl (l' := #[iv p0, iv p1, iv (6 : Int32), iv (0 : Int32), iv (2 : Int32), rv a2, rv a46, iv (1 : Int32), rv b64, iv (3 : Int32)]) rfl k) ?_
      refine own_go (B := (T189.setTop (mkF m 317 #[iv p0, iv p1, iv (6 : Int32), iv (0 : Int32), iv (2 : Int32), rv a2, rv a46, iv (1 : Int32), rv b64, iv (3 : Int32)] [(.int (3 : Int32))]))) (fun t k => XS.iload X189.here hx rfl (hb hby at_315) rfl k) ?_
      refine own_go (B := (T189.setTop (mkF m 318 #[iv p0, iv p1, iv (6 : Int32), iv (0 : Int32), iv (2 : Int32), rv a2, rv a46, iv (1 : Int32), rv b64, iv (3 : Int32)] [(.int (3 : Int32)), (.int (3 : Int32))]))) (fun t k => own_iconst (v := (3 : Int32)) X189.here hx rfl (hb hby at_317) (by decide) k) ?_
      have hc318 : ¬ (3 : Int32) < (3 : Int32) := (by decide)
      refine own_icmpN X189 hx (hb hby at_318) (pn := 321) rfl hc318 ?_
      refine own_go (B := (T189.setTop (mkF m 323 #[iv p0, iv p1, iv (6 : Int32), iv (0 : Int32), iv (2 : Int32), rv a2, rv a46, iv (1 : Int32), rv b64, iv (3 : Int32)] [(.ref b64)]))) (fun t k => XS.aload X189.here hx rfl (hb hby at_321) rfl rfl k) ?_
      refine own_go (B := (T189.setTop (mkF m 324 #[iv p0, iv p1, iv (6 : Int32), iv (0 : Int32), iv (2 : Int32), rv a2, rv a46, iv (1 : Int32), rv b64, iv (3 : Int32)] [(.int (0 : Int32)), (.ref b64)]))) (fun t k => XS.iloadN X189.here hx rfl (hb hby at_323) rfl k) ?_
      obtain ⟨_, _, ⟨T190, L190, k190, n190⟩, -, X190, hs190, hg190, ⟨Lc190, hQ190, l190, yy190, zz190⟩, st190⟩ := callSS X189 hx (y := own_y19) ho177 (mvT hZ177 w_42) (mvT hZ177 w_43) (mvT hZ177 w_44) (mvT hZ177 w_45) (by decide) (backOfS (W := 0) (own_ro0 l Z a0 hw [] b64 a2 (6 : Int32) (8 : Int32) (8 : Int32) (5 : Int32) (0 : Int32) [(.int (48 : Int32)), (.int (6 : Int32)), (.int (5 : Int32)), (.int (0 : Int32)), (.int (5 : Int32)), (.int (0 : Int32)), (.int (5 : Int32)), (.int (0 : Int32))] T177.heap n0 F178 Ex177 gn_b64 gb177 gp177 ge177 F180 (by decide) (by decide) (by decide) rfl (by decide) rfl (by decide) (by decide) (by decide) (by decide)) hZ177 w_45 w_44 (by decide) (by decide)) (g := (mkF m 324 #[iv p0, iv p1, iv (6 : Int32), iv (0 : Int32), iv (2 : Int32), rv a2, rv a46, iv (1 : Int32), rv b64, iv (3 : Int32)] [(.int (0 : Int32)), (.ref b64)])) rfl (by rw [hml]; rfl) (argsL := [(.ref b64), (.int (0 : Int32))]) (rest := []) (lenOf own_pd14 rfl) rfl (by show 2 * 0 + _ ≤ _; exact own_b rfl) (hb hby at_324) (fun _ _ => ⟨rfl, e189, (own_b rfl : 9 + 2 ≤ _), (own_b rfl : 90 + 20 ≤ _)⟩)
      dsimp only [Pt.U, Pt.locs, Pt.cells, Pt.slots] at X190 l190 yy190 zz190 st190 hQ190 hs190 hg190
      obtain ⟨rfl, Nq190, K190, Ex190, gb190, gp190, ge190⟩ := hQ190
      obtain ⟨L190, X190, N190⟩ := own_absC (K := 11) (K' := 110) X190 l190 yy190 zz190 N189 Nq190
      have X190 : Stand p l e room_1 (s.setVm T190.vm) m #[(.int p0), (.int p1)] below meth c T190 L190 11 110 := X190
      have hS190 := foldS hS177 (T := T189) (by rw [e189]; exact hk177) hs190 hg190
      have hZ190 : Z.Warmed39 (s.setVm T190.vm).vm := State.Warmed39.trans (t := s.setVm T177.vm) hZ177 hs190.1
      have ho190 : (s.setVm T190.vm).vm.findClass "com/example/honeybee/honeybee/device/DerReaderAtEndPinLaw" = some m.cls := by rw [show (s.setVm T190.vm).vm = T190.vm from rfl, hs190.1.alike.findClass]; exact ho177
      have F191 : n0 ≤ T190.heap.size := Nat.le_trans F178 K190.1
      have F192 := Keep.trans F179 K190 (allS (Or.inr (Nat.le_trans F57.1 gz64)) all0)
      have F193 := own_Ar_keep F180 K190 (ninS (Ne.symm nb64_a2) nin0)
      have F194 := Exa.keep F181 K190
      have F195 := Fld.keep F182 K190 (ninS (Ne.symm nb64_a46) nin0)
      have F196 := Fld.keep F183 K190 (ninS (Ne.symm nb64_a46) nin0)
      have F197 := Fld.keep F184 K190 (ninS (Ne.symm nb64_a46) nin0)
      have F198 := Exa.keep Ex177 K190
      have hk190 : T190.heap.size ≤ T190.heap.size := Nat.le_refl _
      refine own_tr (B := (T190.setTop (mkF m 327 #[iv p0, iv p1, iv (6 : Int32), iv (0 : Int32), iv (2 : Int32), rv a2, rv a46, iv (1 : Int32), rv b64, iv (3 : Int32)] []))) st190 ?_
      refine own_go (B := (T190.setTop (mkF m 329 #[iv p0, iv p1, iv (6 : Int32), iv (0 : Int32), iv (2 : Int32), rv a2, rv a46, iv (1 : Int32), rv b64, iv (3 : Int32)] [(.int (1 : Int32))]))) (fun t k => XS.iload X190.here hx rfl (hb hby at_327) rfl k) ?_
      have hc329 : ¬ (1 : Int32) = (0 : Int32) := (by decide)
      refine own_ifN X190 hx (hb hby at_329) (pn := 332) rfl hc329 ?_
      refine own_go (B := (T190.setTop (mkF m 334 #[iv p0, iv p1, iv (6 : Int32), iv (0 : Int32), iv (2 : Int32), rv a2, rv a46, iv (1 : Int32), rv b64, iv (3 : Int32)] [(.ref b64)]))) (fun t k => XS.aload X190.here hx rfl (hb hby at_332) rfl rfl k) ?_
      obtain ⟨cq202, kq202, qa202, qb202, qc202⟩ := isOf hZ190 rfl Ex190
      obtain ⟨_, _, ⟨T202, L202, k202, n202⟩, -, X202, ⟨Lc202, hQ202, l202, yy202, zz202⟩, st202⟩ := X190.virtualBack hx (y := own_y17) (z := own_y17) ho190 (mvT hZ190 w_20) (mvT hZ190 w_21) (notFace_of_selects (args := #[]) (mvT hZ190 w_23)) (mvT hZ190 w_23) (mvT hZ190 w_22) (by decide) (backOf (W := 0) (own_ae l Z a0 hw [] b64 (8 : Int32) (8 : Int32) T190.heap n0 gp190 ge190) hZ190 w_24 w_4 (by decide) (by decide)) qa202 qc202 (g := (mkF m 334 #[iv p0, iv p1, iv (6 : Int32), iv (0 : Int32), iv (2 : Int32), rv a2, rv a46, iv (1 : Int32), rv b64, iv (3 : Int32)] [(.ref b64)])) rfl (by rw [hml]; rfl) (Steps.refl _) (argsL := []) (rest := []) (lenOf own_pd12 rfl) rfl (by show 2 * 0 + _ ≤ _; exact own_b rfl) (hb hby at_334) (fun _ _ => ⟨rfl, rfl, (own_b rfl : 11 + 0 ≤ _), (own_b rfl : 110 + 0 ≤ _)⟩)
      dsimp only [Pt.U, Pt.locs, Pt.cells, Pt.slots] at X202 l202 yy202 zz202 st202 hQ202
      obtain ⟨rfl, Nq202, eq202⟩ := hQ202
      obtain ⟨L202, X202, N202⟩ := own_absC (K := 11) (K' := 110) X202 l202 yy202 zz202 N190 Nq202
      have e202 : T202.heap = T190.heap := eq202
      refine own_tr (B := (T202.setTop (mkF m 337 #[iv p0, iv p1, iv (6 : Int32), iv (0 : Int32), iv (2 : Int32), rv a2, rv a46, iv (1 : Int32), rv b64, iv (3 : Int32)] [(.int (own_eqr (8 : Int32) (8 : Int32)))]))) st202 ?_
      rw [show own_eqr (8 : Int32) (8 : Int32) = (1 : Int32) from by decide]
      refine own_go (B := (T202.setTop (mkF m 338 #[iv p0, iv p1, iv (6 : Int32), iv (0 : Int32), iv (2 : Int32), rv a2, rv a46, iv (1 : Int32), rv b64, iv (3 : Int32)] [(.int (3 : Int32)), (.int (1 : Int32))]))) (fun t k => own_iconst (v := (3 : Int32)) X202.here hx rfl (hb hby at_337) (by decide) k) ?_
      refine own_go (B := (T202.setTop (mkF m 340 #[iv p0, iv p1, iv (6 : Int32), iv (0 : Int32), iv (2 : Int32), rv a2, rv a46, iv (1 : Int32), rv b64, iv (3 : Int32)] [(.int (2 : Int32)), (.int (3 : Int32)), (.int (1 : Int32))]))) (fun t k => XS.iload X202.here hx rfl (hb hby at_338) rfl k) ?_
      refine own_go (B := (T202.setTop (mkF m 341 #[iv p0, iv p1, iv (6 : Int32), iv (0 : Int32), iv (2 : Int32), rv a2, rv a46, iv (1 : Int32), rv b64, iv (3 : Int32)] [(.int ((3 : Int32) * (2 : Int32))), (.int (1 : Int32))]))) (fun t k => XS.imul (x := (3 : Int32)) (y := (2 : Int32)) X202.here hx rfl (hb hby at_340) rfl k) ?_
      rw [show ((3 : Int32) * (2 : Int32)) = (6 : Int32) from by decide]
      refine own_go (B := (T202.setTop (mkF m 342 #[iv p0, iv p1, iv (6 : Int32), iv (0 : Int32), iv (2 : Int32), rv a2, rv a46, iv (1 : Int32), rv b64, iv (3 : Int32)] [(.int (6 : Int32)), (.int (6 : Int32)), (.int (1 : Int32))]))) (fun t k => XS.iloadN X202.here hx rfl (hb hby at_341) rfl k) ?_
      have hc342 : (6 : Int32) = (6 : Int32) := (by decide)
      refine own_icmpN X202 hx (hb hby at_342) (pn := 345) rfl hc342 ?_
      refine own_go (B := (T202.setTop (mkF m 346 #[iv p0, iv p1, iv (6 : Int32), iv (0 : Int32), iv (2 : Int32), rv a2, rv a46, iv (1 : Int32), rv b64, iv (3 : Int32)] [(.int (1 : Int32)), (.int (1 : Int32))]))) (fun t k => own_iconst (v := (1 : Int32)) X202.here hx rfl (hb hby at_345) (by decide) k) ?_
      refine own_go (B := (T202.setTop (mkF m 350 #[iv p0, iv p1, iv (6 : Int32), iv (0 : Int32), iv (2 : Int32), rv a2, rv a46, iv (1 : Int32), rv b64, iv (3 : Int32)] [(.int (1 : Int32)), (.int (1 : Int32))]))) (fun t k => XS.goto X202.here hx rfl (pc0 := 346) (pc' := 350) rfl (hb hby at_346) (by decide) (by decide) k) ?_
      have hc350 : (1 : Int32) = (1 : Int32) := (by decide)
      refine own_icmpN X202 hx (hb hby at_350) (pn := 353) rfl hc350 ?_
      refine own_go (B := (T202.setTop (mkF m 354 #[iv p0, iv p1, iv (6 : Int32), iv (0 : Int32), iv (2 : Int32), rv a2, rv a46, iv (1 : Int32), rv b64, iv (3 : Int32)] [(.int (1 : Int32))]))) (fun t k => own_iconst (v := (1 : Int32)) X202.here hx rfl (hb hby at_353) (by decide) k) ?_
      refine own_go (B := (T202.setTop (mkF m 358 #[iv p0, iv p1, iv (6 : Int32), iv (0 : Int32), iv (2 : Int32), rv a2, rv a46, iv (1 : Int32), rv b64, iv (3 : Int32)] [(.int (1 : Int32))]))) (fun t k => XS.goto X202.here hx rfl (pc0 := 354) (pc' := 358) rfl (hb hby at_354) (by decide) (by decide) k) ?_
      refine own_go (B := (T202.setTop (mkF m 360 #[iv p0, iv p1, iv (6 : Int32), iv (0 : Int32), iv (2 : Int32), rv a2, rv a46, iv (1 : Int32), rv b64, iv (3 : Int32)] []))) (fun t k => XS.istore X202.here hx rfl (hb hby at_358) rfl (l' := #[iv p0, iv p1, iv (6 : Int32), iv (0 : Int32), iv (2 : Int32), rv a2, rv a46, iv (1 : Int32), rv b64, iv (3 : Int32)]) rfl k) ?_
      refine own_go (B := (T202.setTop (mkF m 362 #[iv p0, iv p1, iv (6 : Int32), iv (0 : Int32), iv (2 : Int32), rv a2, rv a46, iv (1 : Int32), rv b64, iv (3 : Int32)] [(.int (1 : Int32))]))) (fun t k => XS.iload X202.here hx rfl (hb hby at_360) rfl k) ?_
      exact own_retWZ X202 hx hlk hS190 (by rw [e202]; exact hk190) Bd.returns (hb hby at_362) (by decide) (own_b rfl) (own_b rfl) (Q := (own_law_Q Z p0 p1 zz zm h0 n0)) ⟨rfl, N202⟩
  · refine own_go (B := (s₁.setTop (mkF m 15 #[iv p0, iv p1, iv z7, .unset, .unset, .unset, .unset, .unset, .unset, .unset] [(.int (1 : Int32))]))) (fun t k => own_iconst (v := (1 : Int32)) X0.here hx rfl (hb hby at_14) (by decide) k) ?_
    refine own_go (B := (s₁.setTop (mkF m 19 #[iv p0, iv p1, iv z7, .unset, .unset, .unset, .unset, .unset, .unset, .unset] [(.int (1 : Int32))]))) (fun t k => XS.goto X0.here hx rfl (pc0 := 15) (pc' := 19) rfl (hb hby at_15) (by decide) (by decide) k) ?_
    refine own_go (B := (s₁.setTop (mkF m 20 #[iv p0, iv p1, iv z7, iv (1 : Int32), .unset, .unset, .unset, .unset, .unset, .unset] []))) (fun t k => XS.istoreN X0.here hx rfl (hb hby at_19) rfl (l' := #[iv p0, iv p1, iv z7, iv (1 : Int32), .unset, .unset, .unset, .unset, .unset, .unset]) rfl k) ?_
    refine own_go (B := (s₁.setTop (mkF m 21 #[iv p0, iv p1, iv z7, iv (1 : Int32), .unset, .unset, .unset, .unset, .unset, .unset] [(.int (1 : Int32))]))) (fun t k => XS.iloadN X0.here hx rfl (hb hby at_20) rfl k) ?_
    have hc21 : ¬ (1 : Int32) = (0 : Int32) := (by decide)
    refine own_ifN X0 hx (hb hby at_21) (pn := 24) rfl hc21 ?_
    refine own_go (B := (s₁.setTop (mkF m 25 #[iv p0, iv p1, iv z7, iv (1 : Int32), .unset, .unset, .unset, .unset, .unset, .unset] [(.int (3 : Int32))]))) (fun t k => own_iconst (v := (3 : Int32)) X0.here hx rfl (hb hby at_24) (by decide) k) ?_
    refine own_go (B := (s₁.setTop (mkF m 29 #[iv p0, iv p1, iv z7, iv (1 : Int32), .unset, .unset, .unset, .unset, .unset, .unset] [(.int (3 : Int32))]))) (fun t k => XS.goto X0.here hx rfl (pc0 := 25) (pc' := 29) rfl (hb hby at_25) (by decide) (by decide) k) ?_
    refine own_go (B := (s₁.setTop (mkF m 31 #[iv p0, iv p1, iv z7, iv (1 : Int32), iv (3 : Int32), .unset, .unset, .unset, .unset, .unset] []))) (fun t k => XS.istore X0.here hx rfl (hb hby at_29) rfl (l' := #[iv p0, iv p1, iv z7, iv (1 : Int32), iv (3 : Int32), .unset, .unset, .unset, .unset, .unset]) rfl k) ?_
    refine own_go (B := (s₁.setTop (mkF m 33 #[iv p0, iv p1, iv z7, iv (1 : Int32), iv (3 : Int32), .unset, .unset, .unset, .unset, .unset] [(.int (8 : Int32))]))) (fun t k => own_bipush (v := (8 : Int32)) X0.here hx rfl (hb hby at_31) (by decide) k) ?_
    obtain ⟨T203, h203, c203, X203, e203, E203, A203, st203⟩ := newP X0 hx hZ (aty := .byte) w_1 e0 (g := (mkF m 33 #[iv p0, iv p1, iv z7, iv (1 : Int32), iv (3 : Int32), .unset, .unset, .unset, .unset, .unset] [(.int (8 : Int32))])) rfl (hb hby at_33) rfl (by decide) (cap := 8) (by decide) (by decide) (own_b rfl) (own_b rfl)
    obtain ⟨a203, ga203⟩ : ∃ z, z = h0.size := ⟨_, rfl⟩
    rw [← ga203] at A203 st203
    refine own_go (B := (T203.setTop (mkF m 35 #[iv p0, iv p1, iv z7, iv (1 : Int32), iv (3 : Int32), .unset, .unset, .unset, .unset, .unset] [(.ref a203)]))) st203 ?_
    have Z204 : 0 ≤ h203.size := Nat.le_trans hk0 E203.1
    have Z205 : n0 ≤ h203.size := Nat.le_trans Z0 E203.1
    have K206 := Keep.ext K0 E203
    have gn203 : n0 ≤ a203 := Nat.le_trans Z0 (Nat.le_of_eq ga203.symm)
    have V203 : own_Ar Z h203 a203 .byte [(.int (0 : Int32)), (.int (0 : Int32)), (.int (0 : Int32)), (.int (0 : Int32)), (.int (0 : Int32)), (.int (0 : Int32)), (.int (0 : Int32)), (.int (0 : Int32))] := own_Ar_new A203 (N := 8) (by decide) rfl
    refine own_go (B := (T203.setTop (mkF m 37 #[iv p0, iv p1, iv z7, iv (1 : Int32), iv (3 : Int32), rv a203, .unset, .unset, .unset, .unset] []))) (fun t k => XS.astore X203.here hx rfl (hb hby at_35) rfl rfl (l' := #[iv p0, iv p1, iv z7, iv (1 : Int32), iv (3 : Int32), rv a203, .unset, .unset, .unset, .unset]) rfl k) ?_
    refine own_go (B := (T203.setTop (mkF m 39 #[iv p0, iv p1, iv z7, iv (1 : Int32), iv (3 : Int32), rv a203, .unset, .unset, .unset, .unset] [(.ref a203)]))) (fun t k => XS.aload X203.here hx rfl (hb hby at_37) rfl rfl k) ?_
    refine own_go (B := (T203.setTop (mkF m 40 #[iv p0, iv p1, iv z7, iv (1 : Int32), iv (3 : Int32), rv a203, .unset, .unset, .unset, .unset] [(.int (0 : Int32)), (.ref a203)]))) (fun t k => own_iconst (v := (0 : Int32)) X203.here hx rfl (hb hby at_39) (by decide) k) ?_
    refine own_go (B := (T203.setTop (mkF m 42 #[iv p0, iv p1, iv z7, iv (1 : Int32), iv (3 : Int32), rv a203, .unset, .unset, .unset, .unset] [(.int (48 : Int32)), (.int (0 : Int32)), (.ref a203)]))) (fun t k => own_bipush (v := (48 : Int32)) X203.here hx rfl (hb hby at_40) (by decide) k) ?_
    obtain ⟨T207, h207, X207, e207, W207, V207, st207⟩ := own_stB X203 hx hZ e203 V203 (i := 0) (by decide) (by decide) (Nat.lt_of_lt_of_eq (by decide : 0 < 8) rfl) (by decide) (L' := [(.int (48 : Int32)), (.int (0 : Int32)), (.int (0 : Int32)), (.int (0 : Int32)), (.int (0 : Int32)), (.int (0 : Int32)), (.int (0 : Int32)), (.int (0 : Int32))]) rfl (g := (mkF m 42 #[iv p0, iv p1, iv z7, iv (1 : Int32), iv (3 : Int32), rv a203, .unset, .unset, .unset, .unset] [(.int (48 : Int32)), (.int (0 : Int32)), (.ref a203)])) rfl rfl (hb hby at_42)
    refine own_go (B := (T207.setTop (mkF m 43 #[iv p0, iv p1, iv z7, iv (1 : Int32), iv (3 : Int32), rv a203, .unset, .unset, .unset, .unset] []))) st207 ?_
    obtain ⟨L207, X207, N207⟩ := own_abs X207 (Fr.snoc X207 N0 gn203)
    have F208 : 0 ≤ h207.size := by rw [W207.size]; exact Z204
    have F209 : n0 ≤ h207.size := by rw [W207.size]; exact Z205
    have F210 := Keep.wr K206 W207 (Or.inr (Nat.le_trans K0.1 (Nat.le_of_eq ga203.symm)))
    refine own_go (B := (T207.setTop (mkF m 45 #[iv p0, iv p1, iv z7, iv (1 : Int32), iv (3 : Int32), rv a203, .unset, .unset, .unset, .unset] [(.ref a203)]))) (fun t k => XS.aload X207.here hx rfl (hb hby at_43) rfl rfl k) ?_
    refine own_go (B := (T207.setTop (mkF m 46 #[iv p0, iv p1, iv z7, iv (1 : Int32), iv (3 : Int32), rv a203, .unset, .unset, .unset, .unset] [(.int (1 : Int32)), (.ref a203)]))) (fun t k => own_iconst (v := (1 : Int32)) X207.here hx rfl (hb hby at_45) (by decide) k) ?_
    refine own_go (B := (T207.setTop (mkF m 47 #[iv p0, iv p1, iv z7, iv (1 : Int32), iv (3 : Int32), rv a203, .unset, .unset, .unset, .unset] [(.int z7), (.int (1 : Int32)), (.ref a203)]))) (fun t k => XS.iloadN X207.here hx rfl (hb hby at_46) rfl k) ?_
    refine own_go (B := (T207.setTop (mkF m 48 #[iv p0, iv p1, iv z7, iv (1 : Int32), iv (3 : Int32), rv a203, .unset, .unset, .unset, .unset] [(.int (z7.toInt8.toInt32)), (.int (1 : Int32)), (.ref a203)]))) (fun t k => XS.i2b X207.here hx rfl (hb hby at_47) rfl k) ?_
    rw [hn7]
    obtain ⟨T212, h212, X212, e212, W212, V212, st212⟩ := own_stB X207 hx hZ e207 V207 (i := 1) (by decide) (by decide) (Nat.lt_of_lt_of_eq (by decide : 1 < 8) rfl) hnr7 (L' := [(.int (48 : Int32)), (.int z7), (.int (0 : Int32)), (.int (0 : Int32)), (.int (0 : Int32)), (.int (0 : Int32)), (.int (0 : Int32)), (.int (0 : Int32))]) rfl (g := (mkF m 48 #[iv p0, iv p1, iv z7, iv (1 : Int32), iv (3 : Int32), rv a203, .unset, .unset, .unset, .unset] [(.int z7), (.int (1 : Int32)), (.ref a203)])) rfl rfl (hb hby at_48)
    refine own_go (B := (T212.setTop (mkF m 49 #[iv p0, iv p1, iv z7, iv (1 : Int32), iv (3 : Int32), rv a203, .unset, .unset, .unset, .unset] []))) st212 ?_
    obtain ⟨L212, X212, N212⟩ := own_abs X212 (Fr.snoc X212 N207 gn203)
    have F213 : 0 ≤ h212.size := by rw [W212.size]; exact F208
    have F214 : n0 ≤ h212.size := by rw [W212.size]; exact F209
    have F215 := Keep.wr F210 W212 (Or.inr (Nat.le_trans K0.1 (Nat.le_of_eq ga203.symm)))
    refine own_go (B := (T212.setTop (mkF m 50 #[iv p0, iv p1, iv z7, iv (1 : Int32), iv (3 : Int32), rv a203, .unset, .unset, .unset, .unset] [(.int (1 : Int32))]))) (fun t k => XS.iloadN X212.here hx rfl (hb hby at_49) rfl k) ?_
    have hc50 : ¬ (1 : Int32) = (0 : Int32) := (by decide)
    refine own_ifN X212 hx (hb hby at_50) (pn := 53) rfl hc50 ?_
    refine own_go (B := (T212.setTop (mkF m 55 #[iv p0, iv p1, iv z7, iv (1 : Int32), iv (3 : Int32), rv a203, .unset, .unset, .unset, .unset] [(.ref a203)]))) (fun t k => XS.aload X212.here hx rfl (hb hby at_53) rfl rfl k) ?_
    refine own_go (B := (T212.setTop (mkF m 56 #[iv p0, iv p1, iv z7, iv (1 : Int32), iv (3 : Int32), rv a203, .unset, .unset, .unset, .unset] [(.int (2 : Int32)), (.ref a203)]))) (fun t k => own_iconst (v := (2 : Int32)) X212.here hx rfl (hb hby at_55) (by decide) k) ?_
    refine own_go (B := (T212.setTop (mkF m 57 #[iv p0, iv p1, iv z7, iv (1 : Int32), iv (3 : Int32), rv a203, .unset, .unset, .unset, .unset] [(.int (2 : Int32)), (.int (2 : Int32)), (.ref a203)]))) (fun t k => own_iconst (v := (2 : Int32)) X212.here hx rfl (hb hby at_56) (by decide) k) ?_
    obtain ⟨T217, h217, X217, e217, W217, V217, st217⟩ := own_stB X212 hx hZ e212 V212 (i := 2) (by decide) (by decide) (Nat.lt_of_lt_of_eq (by decide : 2 < 8) rfl) (by decide) (L' := [(.int (48 : Int32)), (.int z7), (.int (2 : Int32)), (.int (0 : Int32)), (.int (0 : Int32)), (.int (0 : Int32)), (.int (0 : Int32)), (.int (0 : Int32))]) rfl (g := (mkF m 57 #[iv p0, iv p1, iv z7, iv (1 : Int32), iv (3 : Int32), rv a203, .unset, .unset, .unset, .unset] [(.int (2 : Int32)), (.int (2 : Int32)), (.ref a203)])) rfl rfl (hb hby at_57)
    refine own_go (B := (T217.setTop (mkF m 58 #[iv p0, iv p1, iv z7, iv (1 : Int32), iv (3 : Int32), rv a203, .unset, .unset, .unset, .unset] []))) st217 ?_
    obtain ⟨L217, X217, N217⟩ := own_abs X217 (Fr.snoc X217 N212 gn203)
    have F218 : 0 ≤ h217.size := by rw [W217.size]; exact F213
    have F219 : n0 ≤ h217.size := by rw [W217.size]; exact F214
    have F220 := Keep.wr F215 W217 (Or.inr (Nat.le_trans K0.1 (Nat.le_of_eq ga203.symm)))
    refine own_go (B := (T217.setTop (mkF m 60 #[iv p0, iv p1, iv z7, iv (1 : Int32), iv (3 : Int32), rv a203, .unset, .unset, .unset, .unset] [(.ref a203)]))) (fun t k => XS.aload X217.here hx rfl (hb hby at_58) rfl rfl k) ?_
    refine own_go (B := (T217.setTop (mkF m 61 #[iv p0, iv p1, iv z7, iv (1 : Int32), iv (3 : Int32), rv a203, .unset, .unset, .unset, .unset] [(.int (3 : Int32)), (.ref a203)]))) (fun t k => own_iconst (v := (3 : Int32)) X217.here hx rfl (hb hby at_60) (by decide) k) ?_
    refine own_go (B := (T217.setTop (mkF m 62 #[iv p0, iv p1, iv z7, iv (1 : Int32), iv (3 : Int32), rv a203, .unset, .unset, .unset, .unset] [(.int (1 : Int32)), (.int (3 : Int32)), (.ref a203)]))) (fun t k => own_iconst (v := (1 : Int32)) X217.here hx rfl (hb hby at_61) (by decide) k) ?_
    obtain ⟨T222, h222, X222, e222, W222, V222, st222⟩ := own_stB X217 hx hZ e217 V217 (i := 3) (by decide) (by decide) (Nat.lt_of_lt_of_eq (by decide : 3 < 8) rfl) (by decide) (L' := [(.int (48 : Int32)), (.int z7), (.int (2 : Int32)), (.int (1 : Int32)), (.int (0 : Int32)), (.int (0 : Int32)), (.int (0 : Int32)), (.int (0 : Int32))]) rfl (g := (mkF m 62 #[iv p0, iv p1, iv z7, iv (1 : Int32), iv (3 : Int32), rv a203, .unset, .unset, .unset, .unset] [(.int (1 : Int32)), (.int (3 : Int32)), (.ref a203)])) rfl rfl (hb hby at_62)
    refine own_go (B := (T222.setTop (mkF m 63 #[iv p0, iv p1, iv z7, iv (1 : Int32), iv (3 : Int32), rv a203, .unset, .unset, .unset, .unset] []))) st222 ?_
    obtain ⟨L222, X222, N222⟩ := own_abs X222 (Fr.snoc X222 N217 gn203)
    have F223 : 0 ≤ h222.size := by rw [W222.size]; exact F218
    have F224 : n0 ≤ h222.size := by rw [W222.size]; exact F219
    have F225 := Keep.wr F220 W222 (Or.inr (Nat.le_trans K0.1 (Nat.le_of_eq ga203.symm)))
    refine own_go (B := (T222.setTop (mkF m 65 #[iv p0, iv p1, iv z7, iv (1 : Int32), iv (3 : Int32), rv a203, .unset, .unset, .unset, .unset] [(.ref a203)]))) (fun t k => XS.aload X222.here hx rfl (hb hby at_63) rfl rfl k) ?_
    refine own_go (B := (T222.setTop (mkF m 66 #[iv p0, iv p1, iv z7, iv (1 : Int32), iv (3 : Int32), rv a203, .unset, .unset, .unset, .unset] [(.int (4 : Int32)), (.ref a203)]))) (fun t k => own_iconst (v := (4 : Int32)) X222.here hx rfl (hb hby at_65) (by decide) k) ?_
    refine own_go (B := (T222.setTop (mkF m 67 #[iv p0, iv p1, iv z7, iv (1 : Int32), iv (3 : Int32), rv a203, .unset, .unset, .unset, .unset] [(.int p1), (.int (4 : Int32)), (.ref a203)]))) (fun t k => XS.iloadN X222.here hx rfl (hb hby at_66) rfl k) ?_
    refine own_go (B := (T222.setTop (mkF m 69 #[iv p0, iv p1, iv z7, iv (1 : Int32), iv (3 : Int32), rv a203, .unset, .unset, .unset, .unset] [(.int (8 : Int32)), (.int p1), (.int (4 : Int32)), (.ref a203)]))) (fun t k => own_bipush (v := (8 : Int32)) X222.here hx rfl (hb hby at_67) (by decide) k) ?_
    refine own_go (B := (T222.setTop (mkF m 70 #[iv p0, iv p1, iv z7, iv (1 : Int32), iv (3 : Int32), rv a203, .unset, .unset, .unset, .unset] [(.int (p1 >>> ((8 : Int32) &&& 31))), (.int (4 : Int32)), (.ref a203)]))) (fun t k => XS.ishr (x := p1) (y := (8 : Int32)) X222.here hx rfl (hb hby at_69) rfl k) ?_
    refine own_go (B := (T222.setTop (mkF m 71 #[iv p0, iv p1, iv z7, iv (1 : Int32), iv (3 : Int32), rv a203, .unset, .unset, .unset, .unset] [(.int ((p1 >>> ((8 : Int32) &&& 31)).toInt8.toInt32)), (.int (4 : Int32)), (.ref a203)]))) (fun t k => XS.i2b X222.here hx rfl (hb hby at_70) rfl k) ?_
    obtain ⟨z71, hz71⟩ : ∃ z : Int32, z = ((p1 >>> ((8 : Int32) &&& 31)).toInt8.toInt32) := ⟨_, rfl⟩
    rw [← hz71]
    have hnr71 : nar .byte z71 = z71 := by rw [hz71]; exact own_i2b _
    have hf71 : fits .byte (.int z71) = true := by rw [hz71]; exact fits_nar_byte _
    obtain ⟨T227, h227, X227, e227, W227, V227, st227⟩ := own_stB X222 hx hZ e222 V222 (i := 4) (by decide) (by decide) (Nat.lt_of_lt_of_eq (by decide : 4 < 8) rfl) hnr71 (L' := [(.int (48 : Int32)), (.int z7), (.int (2 : Int32)), (.int (1 : Int32)), (.int z71), (.int (0 : Int32)), (.int (0 : Int32)), (.int (0 : Int32))]) rfl (g := (mkF m 71 #[iv p0, iv p1, iv z7, iv (1 : Int32), iv (3 : Int32), rv a203, .unset, .unset, .unset, .unset] [(.int z71), (.int (4 : Int32)), (.ref a203)])) rfl rfl (hb hby at_71)
    refine own_go (B := (T227.setTop (mkF m 72 #[iv p0, iv p1, iv z7, iv (1 : Int32), iv (3 : Int32), rv a203, .unset, .unset, .unset, .unset] []))) st227 ?_
    obtain ⟨L227, X227, N227⟩ := own_abs X227 (Fr.snoc X227 N222 gn203)
    have F228 : 0 ≤ h227.size := by rw [W227.size]; exact F223
    have F229 : n0 ≤ h227.size := by rw [W227.size]; exact F224
    have F230 := Keep.wr F225 W227 (Or.inr (Nat.le_trans K0.1 (Nat.le_of_eq ga203.symm)))
    refine own_go (B := (T227.setTop (mkF m 74 #[iv p0, iv p1, iv z7, iv (1 : Int32), iv (3 : Int32), rv a203, .unset, .unset, .unset, .unset] [(.ref a203)]))) (fun t k => XS.aload X227.here hx rfl (hb hby at_72) rfl rfl k) ?_
    refine own_go (B := (T227.setTop (mkF m 75 #[iv p0, iv p1, iv z7, iv (1 : Int32), iv (3 : Int32), rv a203, .unset, .unset, .unset, .unset] [(.int (5 : Int32)), (.ref a203)]))) (fun t k => own_iconst (v := (5 : Int32)) X227.here hx rfl (hb hby at_74) (by decide) k) ?_
    refine own_go (B := (T227.setTop (mkF m 76 #[iv p0, iv p1, iv z7, iv (1 : Int32), iv (3 : Int32), rv a203, .unset, .unset, .unset, .unset] [(.int (2 : Int32)), (.int (5 : Int32)), (.ref a203)]))) (fun t k => own_iconst (v := (2 : Int32)) X227.here hx rfl (hb hby at_75) (by decide) k) ?_
    obtain ⟨T232, h232, X232, e232, W232, V232, st232⟩ := own_stB X227 hx hZ e227 V227 (i := 5) (by decide) (by decide) (Nat.lt_of_lt_of_eq (by decide : 5 < 8) rfl) (by decide) (L' := [(.int (48 : Int32)), (.int z7), (.int (2 : Int32)), (.int (1 : Int32)), (.int z71), (.int (2 : Int32)), (.int (0 : Int32)), (.int (0 : Int32))]) rfl (g := (mkF m 76 #[iv p0, iv p1, iv z7, iv (1 : Int32), iv (3 : Int32), rv a203, .unset, .unset, .unset, .unset] [(.int (2 : Int32)), (.int (5 : Int32)), (.ref a203)])) rfl rfl (hb hby at_76)
    refine own_go (B := (T232.setTop (mkF m 77 #[iv p0, iv p1, iv z7, iv (1 : Int32), iv (3 : Int32), rv a203, .unset, .unset, .unset, .unset] []))) st232 ?_
    obtain ⟨L232, X232, N232⟩ := own_abs X232 (Fr.snoc X232 N227 gn203)
    have F233 : 0 ≤ h232.size := by rw [W232.size]; exact F228
    have F234 : n0 ≤ h232.size := by rw [W232.size]; exact F229
    have F235 := Keep.wr F230 W232 (Or.inr (Nat.le_trans K0.1 (Nat.le_of_eq ga203.symm)))
    refine own_go (B := (T232.setTop (mkF m 79 #[iv p0, iv p1, iv z7, iv (1 : Int32), iv (3 : Int32), rv a203, .unset, .unset, .unset, .unset] [(.ref a203)]))) (fun t k => XS.aload X232.here hx rfl (hb hby at_77) rfl rfl k) ?_
    refine own_go (B := (T232.setTop (mkF m 81 #[iv p0, iv p1, iv z7, iv (1 : Int32), iv (3 : Int32), rv a203, .unset, .unset, .unset, .unset] [(.int (6 : Int32)), (.ref a203)]))) (fun t k => own_bipush (v := (6 : Int32)) X232.here hx rfl (hb hby at_79) (by decide) k) ?_
    refine own_go (B := (T232.setTop (mkF m 82 #[iv p0, iv p1, iv z7, iv (1 : Int32), iv (3 : Int32), rv a203, .unset, .unset, .unset, .unset] [(.int (1 : Int32)), (.int (6 : Int32)), (.ref a203)]))) (fun t k => own_iconst (v := (1 : Int32)) X232.here hx rfl (hb hby at_81) (by decide) k) ?_
    obtain ⟨T237, h237, X237, e237, W237, V237, st237⟩ := own_stB X232 hx hZ e232 V232 (i := 6) (by decide) (by decide) (Nat.lt_of_lt_of_eq (by decide : 6 < 8) rfl) (by decide) (L' := [(.int (48 : Int32)), (.int z7), (.int (2 : Int32)), (.int (1 : Int32)), (.int z71), (.int (2 : Int32)), (.int (1 : Int32)), (.int (0 : Int32))]) rfl (g := (mkF m 82 #[iv p0, iv p1, iv z7, iv (1 : Int32), iv (3 : Int32), rv a203, .unset, .unset, .unset, .unset] [(.int (1 : Int32)), (.int (6 : Int32)), (.ref a203)])) rfl rfl (hb hby at_82)
    refine own_go (B := (T237.setTop (mkF m 83 #[iv p0, iv p1, iv z7, iv (1 : Int32), iv (3 : Int32), rv a203, .unset, .unset, .unset, .unset] []))) st237 ?_
    obtain ⟨L237, X237, N237⟩ := own_abs X237 (Fr.snoc X237 N232 gn203)
    have F238 : 0 ≤ h237.size := by rw [W237.size]; exact F233
    have F239 : n0 ≤ h237.size := by rw [W237.size]; exact F234
    have F240 := Keep.wr F235 W237 (Or.inr (Nat.le_trans K0.1 (Nat.le_of_eq ga203.symm)))
    refine own_go (B := (T237.setTop (mkF m 85 #[iv p0, iv p1, iv z7, iv (1 : Int32), iv (3 : Int32), rv a203, .unset, .unset, .unset, .unset] [(.ref a203)]))) (fun t k => XS.aload X237.here hx rfl (hb hby at_83) rfl rfl k) ?_
    refine own_go (B := (T237.setTop (mkF m 87 #[iv p0, iv p1, iv z7, iv (1 : Int32), iv (3 : Int32), rv a203, .unset, .unset, .unset, .unset] [(.int (7 : Int32)), (.ref a203)]))) (fun t k => own_bipush (v := (7 : Int32)) X237.here hx rfl (hb hby at_85) (by decide) k) ?_
    refine own_go (B := (T237.setTop (mkF m 88 #[iv p0, iv p1, iv z7, iv (1 : Int32), iv (3 : Int32), rv a203, .unset, .unset, .unset, .unset] [(.int p1), (.int (7 : Int32)), (.ref a203)]))) (fun t k => XS.iloadN X237.here hx rfl (hb hby at_87) rfl k) ?_
    refine own_go (B := (T237.setTop (mkF m 90 #[iv p0, iv p1, iv z7, iv (1 : Int32), iv (3 : Int32), rv a203, .unset, .unset, .unset, .unset] [(.int (16 : Int32)), (.int p1), (.int (7 : Int32)), (.ref a203)]))) (fun t k => own_bipush (v := (16 : Int32)) X237.here hx rfl (hb hby at_88) (by decide) k) ?_
    refine own_go (B := (T237.setTop (mkF m 91 #[iv p0, iv p1, iv z7, iv (1 : Int32), iv (3 : Int32), rv a203, .unset, .unset, .unset, .unset] [(.int (p1 >>> ((16 : Int32) &&& 31))), (.int (7 : Int32)), (.ref a203)]))) (fun t k => XS.ishr (x := p1) (y := (16 : Int32)) X237.here hx rfl (hb hby at_90) rfl k) ?_
    refine own_go (B := (T237.setTop (mkF m 92 #[iv p0, iv p1, iv z7, iv (1 : Int32), iv (3 : Int32), rv a203, .unset, .unset, .unset, .unset] [(.int ((p1 >>> ((16 : Int32) &&& 31)).toInt8.toInt32)), (.int (7 : Int32)), (.ref a203)]))) (fun t k => XS.i2b X237.here hx rfl (hb hby at_91) rfl k) ?_
    obtain ⟨z92, hz92⟩ : ∃ z : Int32, z = ((p1 >>> ((16 : Int32) &&& 31)).toInt8.toInt32) := ⟨_, rfl⟩
    rw [← hz92]
    have hnr92 : nar .byte z92 = z92 := by rw [hz92]; exact own_i2b _
    have hf92 : fits .byte (.int z92) = true := by rw [hz92]; exact fits_nar_byte _
    obtain ⟨T242, h242, X242, e242, W242, V242, st242⟩ := own_stB X237 hx hZ e237 V237 (i := 7) (by decide) (by decide) (Nat.lt_of_lt_of_eq (by decide : 7 < 8) rfl) hnr92 (L' := [(.int (48 : Int32)), (.int z7), (.int (2 : Int32)), (.int (1 : Int32)), (.int z71), (.int (2 : Int32)), (.int (1 : Int32)), (.int z92)]) rfl (g := (mkF m 92 #[iv p0, iv p1, iv z7, iv (1 : Int32), iv (3 : Int32), rv a203, .unset, .unset, .unset, .unset] [(.int z92), (.int (7 : Int32)), (.ref a203)])) rfl rfl (hb hby at_92)
    refine own_go (B := (T242.setTop (mkF m 93 #[iv p0, iv p1, iv z7, iv (1 : Int32), iv (3 : Int32), rv a203, .unset, .unset, .unset, .unset] []))) st242 ?_
    obtain ⟨L242, X242, N242⟩ := own_abs X242 (Fr.snoc X242 N237 gn203)
    have F243 : 0 ≤ h242.size := by rw [W242.size]; exact F238
    have F244 : n0 ≤ h242.size := by rw [W242.size]; exact F239
    have F245 := Keep.wr F240 W242 (Or.inr (Nat.le_trans K0.1 (Nat.le_of_eq ga203.symm)))
    refine own_go (B := (T242.setTop (mkF m 128 #[iv p0, iv p1, iv z7, iv (1 : Int32), iv (3 : Int32), rv a203, .unset, .unset, .unset, .unset] []))) (fun t k => XS.goto X242.here hx rfl (pc0 := 93) (pc' := 128) rfl (hb hby at_93) (by decide) (by decide) k) ?_
    obtain ⟨T247, h247, X247, e247, E247, A247, D247, U247, st247⟩ := newO X242 hx hZ hown w_2 w_3 w_4 e242 (g := (mkF m 128 #[iv p0, iv p1, iv z7, iv (1 : Int32), iv (3 : Int32), rv a203, .unset, .unset, .unset, .unset] [])) rfl (hb hby at_128) (own_b rfl) (own_b rfl)
    obtain ⟨a247, ga247⟩ : ∃ z, z = h242.size := ⟨_, rfl⟩
    rw [← ga247] at A247 D247 U247 st247
    refine own_go (B := (T247.setTop (mkF m 131 #[iv p0, iv p1, iv z7, iv (1 : Int32), iv (3 : Int32), rv a203, .unset, .unset, .unset, .unset] [(.ref a247)]))) st247 ?_
    have Z248 : 0 ≤ h247.size := Nat.le_trans F243 E247.1
    have Z249 : n0 ≤ h247.size := Nat.le_trans F244 E247.1
    have K250 := Keep.ext F245 E247
    have V251 := own_Ar_ext V242 E247
    have gn247 : n0 ≤ a247 := Nat.le_trans F244 (Nat.le_of_eq ga247.symm)
    have ne247_a203 : a247 ≠ a203 := fun q => absurd (own_Ar_lt V242) (by rw [← q, ga247]; exact Nat.lt_irrefl _)
    have F252 : Fld Z h247 a247 "com/example/honeybee/honeybee/device/DerReader" "bytes" "[B" .null := D247 (Or.inr w_15) (ty := (.array .byte)) (by decide)
    have F253 : Fld Z h247 a247 "com/example/honeybee/honeybee/device/DerReader" "position" "I" (.int (0 : Int32)) := D247 (Or.inl w_17) (ty := .int) (by decide)
    have F254 : Fld Z h247 a247 "com/example/honeybee/honeybee/device/DerReader" "end" "I" (.int (0 : Int32)) := D247 (Or.inr w_19) (ty := .int) (by decide)
    refine own_go (B := (T247.setTop (mkF m 132 #[iv p0, iv p1, iv z7, iv (1 : Int32), iv (3 : Int32), rv a203, .unset, .unset, .unset, .unset] [(.ref a247), (.ref a247)]))) (fun t k => XS.dup X247.here hx rfl (hb hby at_131) rfl rfl k) ?_
    refine own_go (B := (T247.setTop (mkF m 134 #[iv p0, iv p1, iv z7, iv (1 : Int32), iv (3 : Int32), rv a203, .unset, .unset, .unset, .unset] [(.ref a203), (.ref a247), (.ref a247)]))) (fun t k => XS.aload X247.here hx rfl (hb hby at_132) rfl rfl k) ?_
    obtain ⟨_, _, ⟨T255, L255, k255, n255⟩, -, X255, ⟨Lc255, hQ255, l255, yy255, zz255⟩, st255⟩ := X247.specialBack hx (y := own_y16) rfl hown (mvT hZ w_5) (mvT hZ w_6) (mvT hZ w_7) (by decide) (backOf (W := 1) (own_ct1 l Z a0 hw [] a247 a203 (8 : Int32) [(.int (48 : Int32)), (.int z7), (.int (2 : Int32)), (.int (1 : Int32)), (.int z71), (.int (2 : Int32)), (.int (1 : Int32)), (.int z92)] h247 n0 Z249 A247 gn247 F252 F253 F254 V251 (own_lenL (n := 8) rfl (by decide))) hZ w_7 w_4 (by decide) (by decide)) (g := (mkF m 134 #[iv p0, iv p1, iv z7, iv (1 : Int32), iv (3 : Int32), rv a203, .unset, .unset, .unset, .unset] [(.ref a203), (.ref a247), (.ref a247)])) rfl (by rw [hml]; rfl) (Steps.refl _) (a := a247) (argsL := [(.ref a203)]) (rest := [(.ref a247)]) (lenOf own_pd10 rfl) rfl (by show 2 * 0 + _ ≤ _; exact own_b rfl) (hb hby at_134) (fun _ _ => ⟨rfl, e247, (own_b rfl : 2 + 0 ≤ _), (own_b rfl : 11 + 0 ≤ _)⟩)
    dsimp only [Pt.U, Pt.locs, Pt.cells, Pt.slots] at X255 l255 yy255 zz255 st255 hQ255
    obtain ⟨rfl, Nq255, K255, Ex255, gb255, gp255, ge255⟩ := hQ255
    obtain ⟨L255, X255, N255⟩ := own_absC (K := 2) (K' := 11) X255 l255 yy255 zz255 N242 Nq255
    have F256 : 0 ≤ T255.heap.size := Nat.le_trans Z248 K255.1
    have F257 : n0 ≤ T255.heap.size := Nat.le_trans Z249 K255.1
    have F258 := Keep.trans K250 K255 (allS (Or.inr (Nat.le_trans F245.1 (Nat.le_of_eq ga247.symm))) all0)
    have F259 := own_Ar_keep V251 K255 (ninS (Ne.symm ne247_a203) nin0)
    have F260 := Exa.keep A247 K255
    refine own_tr (B := (T255.setTop (mkF m 137 #[iv p0, iv p1, iv z7, iv (1 : Int32), iv (3 : Int32), rv a203, .unset, .unset, .unset, .unset] [(.ref a247)]))) st255 ?_
    refine own_go (B := (T255.setTop (mkF m 139 #[iv p0, iv p1, iv z7, iv (1 : Int32), iv (3 : Int32), rv a203, rv a247, .unset, .unset, .unset] []))) (fun t k => XS.astore X255.here hx rfl (hb hby at_137) rfl rfl (l' := #[iv p0, iv p1, iv z7, iv (1 : Int32), iv (3 : Int32), rv a203, rv a247, .unset, .unset, .unset]) rfl k) ?_
    refine own_go (B := (T255.setTop (mkF m 141 #[iv p0, iv p1, iv z7, iv (1 : Int32), iv (3 : Int32), rv a203, rv a247, .unset, .unset, .unset] [(.ref a247)]))) (fun t k => XS.aload X255.here hx rfl (hb hby at_139) rfl rfl k) ?_
    obtain ⟨cq264, kq264, qa264, qb264, qc264⟩ := isOf hZ rfl Ex255
    obtain ⟨_, _, ⟨T264, L264, k264, n264⟩, -, X264, ⟨Lc264, hQ264, l264, yy264, zz264⟩, st264⟩ := X255.virtualBack hx (y := own_y17) (z := own_y17) hown (mvT hZ w_20) (mvT hZ w_21) (notFace_of_selects (args := #[]) (mvT hZ w_23)) (mvT hZ w_23) (mvT hZ w_22) (by decide) (backOf (W := 0) (own_ae l Z a0 hw [] a247 (0 : Int32) (8 : Int32) T255.heap n0 gp255 ge255) hZ w_24 w_4 (by decide) (by decide)) qa264 qc264 (g := (mkF m 141 #[iv p0, iv p1, iv z7, iv (1 : Int32), iv (3 : Int32), rv a203, rv a247, .unset, .unset, .unset] [(.ref a247)])) rfl (by rw [hml]; rfl) (Steps.refl _) (argsL := []) (rest := []) (lenOf own_pd12 rfl) rfl (by show 2 * 0 + _ ≤ _; exact own_b rfl) (hb hby at_141) (fun _ _ => ⟨rfl, rfl, (own_b rfl : 2 + 0 ≤ _), (own_b rfl : 11 + 0 ≤ _)⟩)
    dsimp only [Pt.U, Pt.locs, Pt.cells, Pt.slots] at X264 l264 yy264 zz264 st264 hQ264
    obtain ⟨rfl, Nq264, eq264⟩ := hQ264
    obtain ⟨L264, X264, N264⟩ := own_absC (K := 2) (K' := 11) X264 l264 yy264 zz264 N255 Nq264
    have e264 : T264.heap = T255.heap := eq264
    refine own_tr (B := (T264.setTop (mkF m 144 #[iv p0, iv p1, iv z7, iv (1 : Int32), iv (3 : Int32), rv a203, rv a247, .unset, .unset, .unset] [(.int (own_eqr (0 : Int32) (8 : Int32)))]))) st264 ?_
    rw [show own_eqr (0 : Int32) (8 : Int32) = (0 : Int32) from by decide]
    have hc144 : (0 : Int32) = (0 : Int32) := (by decide)
    refine own_ifN X264 hx (hb hby at_144) (pn := 147) rfl hc144 ?_
    refine own_go (B := (T264.setTop (mkF m 148 #[iv p0, iv p1, iv z7, iv (1 : Int32), iv (3 : Int32), rv a203, rv a247, .unset, .unset, .unset] [(.int (1 : Int32))]))) (fun t k => own_iconst (v := (1 : Int32)) X264.here hx rfl (hb hby at_147) (by decide) k) ?_
    refine own_go (B := (T264.setTop (mkF m 152 #[iv p0, iv p1, iv z7, iv (1 : Int32), iv (3 : Int32), rv a203, rv a247, .unset, .unset, .unset] [(.int (1 : Int32))]))) (fun t k => XS.goto X264.here hx rfl (pc0 := 148) (pc' := 152) rfl (hb hby at_148) (by decide) (by decide) k) ?_
    refine own_go (B := (T264.setTop (mkF m 154 #[iv p0, iv p1, iv z7, iv (1 : Int32), iv (3 : Int32), rv a203, rv a247, iv (1 : Int32), .unset, .unset] []))) (fun t k => XS.istore X264.here hx rfl (hb hby at_152) rfl (l' := #[iv p0, iv p1, iv z7, iv (1 : Int32), iv (3 : Int32), rv a203, rv a247, iv (1 : Int32), .unset, .unset]) rfl k) ?_
    refine own_go (B := (T264.setTop (mkF m 156 #[iv p0, iv p1, iv z7, iv (1 : Int32), iv (3 : Int32), rv a203, rv a247, iv (1 : Int32), .unset, .unset] [(.ref a247)]))) (fun t k => XS.aload X264.here hx rfl (hb hby at_154) rfl rfl k) ?_
    obtain ⟨cq265, kq265, qa265, qb265, qc265⟩ := isOf hZ e264 Ex255
    obtain ⟨_, _, ⟨T265, L265, k265, n265⟩, -, X265, hs265, hg265, ⟨Lc265, hQ265, l265, yy265, zz265⟩, st265⟩ := X264.virtualBackS hx (y := own_y18) (z := own_y18) hown (mvT hZ w_25) (mvT hZ w_26) (notFace_of_selects (args := #[]) (mvT hZ w_28)) (mvT hZ w_28) (mvT hZ w_27) (by decide) (backOfS (W := 0) (own_sq l Z a0 hw [] a247 a203 z7 pe [(.int (48 : Int32)), (.int z7), (.int (2 : Int32)), (.int (1 : Int32)), (.int z71), (.int (2 : Int32)), (.int (1 : Int32)), (.int z92)] T255.heap n0 F257 Ex255 gn247 gb255 gp255 ge255 F259 (by decide) (by decide) (by decide) rfl (by decide) rfl hq3 hq4 (by decide) hq5 hpe.symm) hZ w_29 w_4 (by decide) (by decide)) qa265 qc265 (g := (mkF m 156 #[iv p0, iv p1, iv z7, iv (1 : Int32), iv (3 : Int32), rv a203, rv a247, iv (1 : Int32), .unset, .unset] [(.ref a247)])) rfl (by rw [hml]; rfl) (Steps.refl _) (argsL := []) (rest := []) (lenOf own_pd13 rfl) rfl (by show 2 * 0 + _ ≤ _; exact own_b rfl) (hb hby at_156) (fun _ _ => ⟨rfl, e264, (own_b rfl : 2 + 3 ≤ _), (own_b rfl : 11 + 39 ≤ _)⟩)
    dsimp only [Pt.U, Pt.locs, Pt.cells, Pt.slots] at X265 l265 yy265 zz265 st265 hQ265 hs265 hg265
    obtain ⟨b265, rfl, Nq265, K265, gz265, Exo265, gbo265, gpo265, geo265, Exi265, gbi265, gpi265, gei265⟩ := hQ265
    obtain ⟨L265, X265, N265⟩ := own_absC (K := 5) (K' := 50) X265 l265 yy265 zz265 N264 Nq265
    have X265 : Stand p l e room_1 (s.setVm T265.vm) m #[(.int p0), (.int p1)] below meth c T265 L265 5 50 := X265
    have hS265 := foldS hS0 (T := T264) (by rw [e264]; exact F256) hs265 hg265
    have hZ265 : Z.Warmed39 (s.setVm T265.vm).vm := State.Warmed39.trans (t := s.setVm s.vm) hZ hs265.1
    have ho265 : (s.setVm T265.vm).vm.findClass "com/example/honeybee/honeybee/device/DerReaderAtEndPinLaw" = some m.cls := by rw [show (s.setVm T265.vm).vm = T265.vm from rfl, hs265.1.alike.findClass]; exact hown
    have F266 : n0 ≤ T265.heap.size := Nat.le_trans F257 K265.1
    have F267 := Keep.trans F258 K265 (allS (Or.inr (Nat.le_trans F245.1 (Nat.le_of_eq ga247.symm))) all0)
    have F268 := own_Ar_keep F259 K265 (ninS (Ne.symm ne247_a203) nin0)
    have F269 := Exa.keep Ex255 K265
    have gn_b265 : n0 ≤ b265 := Nat.le_trans F257 gz265
    have nb265_a203 : b265 ≠ a203 := fun q => absurd (own_Ar_lt F259) (by rw [← q]; exact Nat.not_lt.mpr gz265)
    have nb265_a247 : b265 ≠ a247 := fun q => absurd Ex255.lt (by rw [← q]; exact Nat.not_lt.mpr gz265)
    have hk265 : T265.heap.size ≤ T265.heap.size := Nat.le_refl _
    refine own_tr (B := (T265.setTop (mkF m 159 #[iv p0, iv p1, iv z7, iv (1 : Int32), iv (3 : Int32), rv a203, rv a247, iv (1 : Int32), .unset, .unset] [(.ref b265)]))) st265 ?_
    rcases h7 with rfl | rfl | rfl | rfl | rfl | rfl | rfl
    · obtain rfl : pe = (2 : Int32) := hpe.trans (by decide)
      refine own_go (B := (T265.setTop (mkF m 161 #[iv p0, iv p1, iv (0 : Int32), iv (1 : Int32), iv (3 : Int32), rv a203, rv a247, iv (1 : Int32), rv b265, .unset] []))) (fun t k => XS.astore X265.here hx rfl (hb hby at_159) rfl rfl (l' := #[iv p0, iv p1, iv (0 : Int32), iv (1 : Int32), iv (3 : Int32), rv a203, rv a247, iv (1 : Int32), rv b265, .unset]) rfl k) ?_
      refine own_go (B := (T265.setTop (mkF m 163 #[iv p0, iv p1, iv (0 : Int32), iv (1 : Int32), iv (3 : Int32), rv a203, rv a247, iv (1 : Int32), rv b265, .unset] [(.int (1 : Int32))]))) (fun t k => XS.iload X265.here hx rfl (hb hby at_161) rfl k) ?_
      have hc163 : ¬ (1 : Int32) = (0 : Int32) := (by decide)
      refine own_ifN X265 hx (hb hby at_163) (pn := 166) rfl hc163 ?_
      refine own_go (B := (T265.setTop (mkF m 168 #[iv p0, iv p1, iv (0 : Int32), iv (1 : Int32), iv (3 : Int32), rv a203, rv a247, iv (1 : Int32), rv b265, .unset] [(.ref a247)]))) (fun t k => XS.aload X265.here hx rfl (hb hby at_166) rfl rfl k) ?_
      obtain ⟨cq273, kq273, qa273, qb273, qc273⟩ := isOf hZ265 rfl Exo265
      obtain ⟨_, _, ⟨T273, L273, k273, n273⟩, -, X273, ⟨Lc273, hQ273, l273, yy273, zz273⟩, st273⟩ := X265.virtualBack hx (y := own_y17) (z := own_y17) ho265 (mvT hZ265 w_20) (mvT hZ265 w_21) (notFace_of_selects (args := #[]) (mvT hZ265 w_23)) (mvT hZ265 w_23) (mvT hZ265 w_22) (by decide) (backOf (W := 0) (own_ae l Z a0 hw [] a247 (2 : Int32) (8 : Int32) T265.heap n0 gpo265 geo265) hZ265 w_24 w_4 (by decide) (by decide)) qa273 qc273 (g := (mkF m 168 #[iv p0, iv p1, iv (0 : Int32), iv (1 : Int32), iv (3 : Int32), rv a203, rv a247, iv (1 : Int32), rv b265, .unset] [(.ref a247)])) rfl (by rw [hml]; rfl) (Steps.refl _) (argsL := []) (rest := []) (lenOf own_pd12 rfl) rfl (by show 2 * 0 + _ ≤ _; exact own_b rfl) (hb hby at_168) (fun _ _ => ⟨rfl, rfl, (own_b rfl : 5 + 0 ≤ _), (own_b rfl : 50 + 0 ≤ _)⟩)
      dsimp only [Pt.U, Pt.locs, Pt.cells, Pt.slots] at X273 l273 yy273 zz273 st273 hQ273
      obtain ⟨rfl, Nq273, eq273⟩ := hQ273
      obtain ⟨L273, X273, N273⟩ := own_absC (K := 5) (K' := 50) X273 l273 yy273 zz273 N265 Nq273
      have e273 : T273.heap = T265.heap := eq273
      refine own_tr (B := (T273.setTop (mkF m 171 #[iv p0, iv p1, iv (0 : Int32), iv (1 : Int32), iv (3 : Int32), rv a203, rv a247, iv (1 : Int32), rv b265, .unset] [(.int (own_eqr (2 : Int32) (8 : Int32)))]))) st273 ?_
      rw [show own_eqr (2 : Int32) (8 : Int32) = (0 : Int32) from by decide]
      refine own_go (B := (T273.setTop (mkF m 172 #[iv p0, iv p1, iv (0 : Int32), iv (1 : Int32), iv (3 : Int32), rv a203, rv a247, iv (1 : Int32), rv b265, .unset] [(.int (0 : Int32)), (.int (0 : Int32))]))) (fun t k => XS.iloadN X273.here hx rfl (hb hby at_171) rfl k) ?_
      refine own_go (B := (T273.setTop (mkF m 174 #[iv p0, iv p1, iv (0 : Int32), iv (1 : Int32), iv (3 : Int32), rv a203, rv a247, iv (1 : Int32), rv b265, .unset] [(.int (6 : Int32)), (.int (0 : Int32)), (.int (0 : Int32))]))) (fun t k => own_bipush (v := (6 : Int32)) X273.here hx rfl (hb hby at_172) (by decide) k) ?_
      have hc174 : ¬ (0 : Int32) = (6 : Int32) := (by decide)
      refine own_icmpY X273 hx (hb hby at_174) (pc' := 181) (by decide) (by decide) hc174 ?_
      refine own_go (B := (T273.setTop (mkF m 182 #[iv p0, iv p1, iv (0 : Int32), iv (1 : Int32), iv (3 : Int32), rv a203, rv a247, iv (1 : Int32), rv b265, .unset] [(.int (0 : Int32)), (.int (0 : Int32))]))) (fun t k => own_iconst (v := (0 : Int32)) X273.here hx rfl (hb hby at_181) (by decide) k) ?_
      have hc182 : (0 : Int32) = (0 : Int32) := (by decide)
      refine own_icmpN X273 hx (hb hby at_182) (pn := 185) rfl hc182 ?_
      refine own_go (B := (T273.setTop (mkF m 186 #[iv p0, iv p1, iv (0 : Int32), iv (1 : Int32), iv (3 : Int32), rv a203, rv a247, iv (1 : Int32), rv b265, .unset] [(.int (1 : Int32))]))) (fun t k => own_iconst (v := (1 : Int32)) X273.here hx rfl (hb hby at_185) (by decide) k) ?_
      refine own_go (B := (T273.setTop (mkF m 190 #[iv p0, iv p1, iv (0 : Int32), iv (1 : Int32), iv (3 : Int32), rv a203, rv a247, iv (1 : Int32), rv b265, .unset] [(.int (1 : Int32))]))) (fun t k => XS.goto X273.here hx rfl (pc0 := 186) (pc' := 190) rfl (hb hby at_186) (by decide) (by decide) k) ?_
      refine own_go (B := (T273.setTop (mkF m 192 #[iv p0, iv p1, iv (0 : Int32), iv (1 : Int32), iv (3 : Int32), rv a203, rv a247, iv (1 : Int32), rv b265, .unset] []))) (fun t k => XS.istore X273.here hx rfl (hb hby at_190) rfl (l' := #[iv p0, iv p1, iv (0 : Int32), iv (1 : Int32), iv (3 : Int32), rv a203, rv a247, iv (1 : Int32), rv b265, .unset]) rfl k) ?_
      refine own_go (B := (T273.setTop (mkF m 194 #[iv p0, iv p1, iv (0 : Int32), iv (1 : Int32), iv (3 : Int32), rv a203, rv a247, iv (1 : Int32), rv b265, .unset] [(.int (1 : Int32))]))) (fun t k => XS.iload X273.here hx rfl (hb hby at_192) rfl k) ?_
      have hc194 : ¬ (1 : Int32) = (0 : Int32) := (by decide)
      refine own_ifN X273 hx (hb hby at_194) (pn := 197) rfl hc194 ?_
      refine own_go (B := (T273.setTop (mkF m 199 #[iv p0, iv p1, iv (0 : Int32), iv (1 : Int32), iv (3 : Int32), rv a203, rv a247, iv (1 : Int32), rv b265, .unset] [(.ref b265)]))) (fun t k => XS.aload X273.here hx rfl (hb hby at_197) rfl rfl k) ?_
      obtain ⟨cq274, kq274, qa274, qb274, qc274⟩ := isOf hZ265 e273 Exi265
      obtain ⟨_, _, ⟨T274, L274, k274, n274⟩, -, X274, ⟨Lc274, hQ274, l274, yy274, zz274⟩, st274⟩ := X273.virtualBack hx (y := own_y17) (z := own_y17) ho265 (mvT hZ265 w_20) (mvT hZ265 w_21) (notFace_of_selects (args := #[]) (mvT hZ265 w_23)) (mvT hZ265 w_23) (mvT hZ265 w_22) (by decide) (backOf (W := 0) (own_ae l Z a0 hw [] b265 (2 : Int32) (2 : Int32) T265.heap n0 gpi265 gei265) hZ265 w_24 w_4 (by decide) (by decide)) qa274 qc274 (g := (mkF m 199 #[iv p0, iv p1, iv (0 : Int32), iv (1 : Int32), iv (3 : Int32), rv a203, rv a247, iv (1 : Int32), rv b265, .unset] [(.ref b265)])) rfl (by rw [hml]; rfl) (Steps.refl _) (argsL := []) (rest := []) (lenOf own_pd12 rfl) rfl (by show 2 * 0 + _ ≤ _; exact own_b rfl) (hb hby at_199) (fun _ _ => ⟨rfl, e273, (own_b rfl : 5 + 0 ≤ _), (own_b rfl : 50 + 0 ≤ _)⟩)
      dsimp only [Pt.U, Pt.locs, Pt.cells, Pt.slots] at X274 l274 yy274 zz274 st274 hQ274
      obtain ⟨rfl, Nq274, eq274⟩ := hQ274
      obtain ⟨L274, X274, N274⟩ := own_absC (K := 5) (K' := 50) X274 l274 yy274 zz274 N273 Nq274
      have e274 : T274.heap = T265.heap := eq274
      refine own_tr (B := (T274.setTop (mkF m 202 #[iv p0, iv p1, iv (0 : Int32), iv (1 : Int32), iv (3 : Int32), rv a203, rv a247, iv (1 : Int32), rv b265, .unset] [(.int (own_eqr (2 : Int32) (2 : Int32)))]))) st274 ?_
      rw [show own_eqr (2 : Int32) (2 : Int32) = (1 : Int32) from by decide]
      refine own_go (B := (T274.setTop (mkF m 203 #[iv p0, iv p1, iv (0 : Int32), iv (1 : Int32), iv (3 : Int32), rv a203, rv a247, iv (1 : Int32), rv b265, .unset] [(.int (0 : Int32)), (.int (1 : Int32))]))) (fun t k => XS.iloadN X274.here hx rfl (hb hby at_202) rfl k) ?_
      have hc203 : (0 : Int32) = (0 : Int32) := (by decide)
      refine own_ifN X274 hx (hb hby at_203) (pn := 206) rfl hc203 ?_
      refine own_go (B := (T274.setTop (mkF m 207 #[iv p0, iv p1, iv (0 : Int32), iv (1 : Int32), iv (3 : Int32), rv a203, rv a247, iv (1 : Int32), rv b265, .unset] [(.int (1 : Int32)), (.int (1 : Int32))]))) (fun t k => own_iconst (v := (1 : Int32)) X274.here hx rfl (hb hby at_206) (by decide) k) ?_
      refine own_go (B := (T274.setTop (mkF m 211 #[iv p0, iv p1, iv (0 : Int32), iv (1 : Int32), iv (3 : Int32), rv a203, rv a247, iv (1 : Int32), rv b265, .unset] [(.int (1 : Int32)), (.int (1 : Int32))]))) (fun t k => XS.goto X274.here hx rfl (pc0 := 207) (pc' := 211) rfl (hb hby at_207) (by decide) (by decide) k) ?_
      have hc211 : (1 : Int32) = (1 : Int32) := (by decide)
      refine own_icmpN X274 hx (hb hby at_211) (pn := 214) rfl hc211 ?_
      refine own_go (B := (T274.setTop (mkF m 215 #[iv p0, iv p1, iv (0 : Int32), iv (1 : Int32), iv (3 : Int32), rv a203, rv a247, iv (1 : Int32), rv b265, .unset] [(.int (1 : Int32))]))) (fun t k => own_iconst (v := (1 : Int32)) X274.here hx rfl (hb hby at_214) (by decide) k) ?_
      refine own_go (B := (T274.setTop (mkF m 219 #[iv p0, iv p1, iv (0 : Int32), iv (1 : Int32), iv (3 : Int32), rv a203, rv a247, iv (1 : Int32), rv b265, .unset] [(.int (1 : Int32))]))) (fun t k => XS.goto X274.here hx rfl (pc0 := 215) (pc' := 219) rfl (hb hby at_215) (by decide) (by decide) k) ?_
      refine own_go (B := (T274.setTop (mkF m 221 #[iv p0, iv p1, iv (0 : Int32), iv (1 : Int32), iv (3 : Int32), rv a203, rv a247, iv (1 : Int32), rv b265, .unset] []))) (fun t k => XS.istore X274.here hx rfl (hb hby at_219) rfl (l' := #[iv p0, iv p1, iv (0 : Int32), iv (1 : Int32), iv (3 : Int32), rv a203, rv a247, iv (1 : Int32), rv b265, .unset]) rfl k) ?_
      refine own_go (B := (T274.setTop (mkF m 222 #[iv p0, iv p1, iv (0 : Int32), iv (1 : Int32), iv (3 : Int32), rv a203, rv a247, iv (1 : Int32), rv b265, .unset] [(.int (0 : Int32))]))) (fun t k => XS.iloadN X274.here hx rfl (hb hby at_221) rfl k) ?_
      refine own_go (B := (T274.setTop (mkF m 224 #[iv p0, iv p1, iv (0 : Int32), iv (1 : Int32), iv (3 : Int32), rv a203, rv a247, iv (1 : Int32), rv b265, .unset] [(.int (3 : Int32)), (.int (0 : Int32))]))) (fun t k => XS.iload X274.here hx rfl (hb hby at_222) rfl k) ?_
      refine own_go (B := (T274.setTop (mkF m 225 #[iv p0, iv p1, iv (0 : Int32), iv (1 : Int32), iv (3 : Int32), rv a203, rv a247, iv (1 : Int32), rv b265, .unset] [(.int ((0 : Int32) / (3 : Int32)))]))) (fun t k => XS.idiv (x := (0 : Int32)) (y := (3 : Int32)) X274.here hx rfl (hb hby at_224) rfl (by decide) k) ?_
      rw [show ((0 : Int32) / (3 : Int32)) = (0 : Int32) from by decide]
      refine own_go (B := (T274.setTop (mkF m 227 #[iv p0, iv p1, iv (0 : Int32), iv (1 : Int32), iv (3 : Int32), rv a203, rv a247, iv (1 : Int32), rv b265, iv (0 : Int32)] []))) (fun t k => XS.istore X274.here hx rfl (hb hby at_225) rfl (l' := #[iv p0, iv p1, iv (0 : Int32), iv (1 : Int32), iv (3 : Int32), rv a203, rv a247, iv (1 : Int32), rv b265, iv (0 : Int32)]) rfl k) ?_
      refine own_go (B := (T274.setTop (mkF m 229 #[iv p0, iv p1, iv (0 : Int32), iv (1 : Int32), iv (3 : Int32), rv a203, rv a247, iv (1 : Int32), rv b265, iv (0 : Int32)] [(.int (0 : Int32))]))) (fun t k => XS.iload X274.here hx rfl (hb hby at_227) rfl k) ?_
      refine own_go (B := (T274.setTop (mkF m 230 #[iv p0, iv p1, iv (0 : Int32), iv (1 : Int32), iv (3 : Int32), rv a203, rv a247, iv (1 : Int32), rv b265, iv (0 : Int32)] [(.int (1 : Int32)), (.int (0 : Int32))]))) (fun t k => own_iconst (v := (1 : Int32)) X274.here hx rfl (hb hby at_229) (by decide) k) ?_
      have hc230 : (0 : Int32) < (1 : Int32) := (by decide)
      refine own_icmpY X274 hx (hb hby at_230) (pc' := 270) (by decide) (by decide) hc230 ?_
      refine own_go (B := (T274.setTop (mkF m 272 #[iv p0, iv p1, iv (0 : Int32), iv (1 : Int32), iv (3 : Int32), rv a203, rv a247, iv (1 : Int32), rv b265, iv (0 : Int32)] [(.int (0 : Int32))]))) (fun t k => XS.iload X274.here hx rfl (hb hby at_270) rfl k) ?_
      refine own_go (B := (T274.setTop (mkF m 273 #[iv p0, iv p1, iv (0 : Int32), iv (1 : Int32), iv (3 : Int32), rv a203, rv a247, iv (1 : Int32), rv b265, iv (0 : Int32)] [(.int (2 : Int32)), (.int (0 : Int32))]))) (fun t k => own_iconst (v := (2 : Int32)) X274.here hx rfl (hb hby at_272) (by decide) k) ?_
      have hc273 : (0 : Int32) < (2 : Int32) := (by decide)
      refine own_icmpY X274 hx (hb hby at_273) (pc' := 315) (by decide) (by decide) hc273 ?_
      refine own_go (B := (T274.setTop (mkF m 317 #[iv p0, iv p1, iv (0 : Int32), iv (1 : Int32), iv (3 : Int32), rv a203, rv a247, iv (1 : Int32), rv b265, iv (0 : Int32)] [(.int (0 : Int32))]))) (fun t k => XS.iload X274.here hx rfl (hb hby at_315) rfl k) ?_
      refine own_go (B := (T274.setTop (mkF m 318 #[iv p0, iv p1, iv (0 : Int32), iv (1 : Int32), iv (3 : Int32), rv a203, rv a247, iv (1 : Int32), rv b265, iv (0 : Int32)] [(.int (3 : Int32)), (.int (0 : Int32))]))) (fun t k => own_iconst (v := (3 : Int32)) X274.here hx rfl (hb hby at_317) (by decide) k) ?_
      have hc318 : (0 : Int32) < (3 : Int32) := (by decide)
      refine own_icmpY X274 hx (hb hby at_318) (pc' := 360) (by decide) (by decide) hc318 ?_
      refine own_go (B := (T274.setTop (mkF m 362 #[iv p0, iv p1, iv (0 : Int32), iv (1 : Int32), iv (3 : Int32), rv a203, rv a247, iv (1 : Int32), rv b265, iv (0 : Int32)] [(.int (1 : Int32))]))) (fun t k => XS.iload X274.here hx rfl (hb hby at_360) rfl k) ?_
      exact own_retWZ X274 hx hlk hS265 (by rw [e274]; exact hk265) Bd.returns (hb hby at_362) (by decide) (own_b rfl) (own_b rfl) (Q := (own_law_Q Z p0 p1 zz zm h0 n0)) ⟨rfl, N274⟩
    · obtain rfl : pe = (3 : Int32) := hpe.trans (by decide)
      refine own_go (B := (T265.setTop (mkF m 161 #[iv p0, iv p1, iv (1 : Int32), iv (1 : Int32), iv (3 : Int32), rv a203, rv a247, iv (1 : Int32), rv b265, .unset] []))) (fun t k => XS.astore X265.here hx rfl (hb hby at_159) rfl rfl (l' := #[iv p0, iv p1, iv (1 : Int32), iv (1 : Int32), iv (3 : Int32), rv a203, rv a247, iv (1 : Int32), rv b265, .unset]) rfl k) ?_
      refine own_go (B := (T265.setTop (mkF m 163 #[iv p0, iv p1, iv (1 : Int32), iv (1 : Int32), iv (3 : Int32), rv a203, rv a247, iv (1 : Int32), rv b265, .unset] [(.int (1 : Int32))]))) (fun t k => XS.iload X265.here hx rfl (hb hby at_161) rfl k) ?_
      have hc163 : ¬ (1 : Int32) = (0 : Int32) := (by decide)
      refine own_ifN X265 hx (hb hby at_163) (pn := 166) rfl hc163 ?_
      refine own_go (B := (T265.setTop (mkF m 168 #[iv p0, iv p1, iv (1 : Int32), iv (1 : Int32), iv (3 : Int32), rv a203, rv a247, iv (1 : Int32), rv b265, .unset] [(.ref a247)]))) (fun t k => XS.aload X265.here hx rfl (hb hby at_166) rfl rfl k) ?_
      obtain ⟨cq275, kq275, qa275, qb275, qc275⟩ := isOf hZ265 rfl Exo265
      obtain ⟨_, _, ⟨T275, L275, k275, n275⟩, -, X275, ⟨Lc275, hQ275, l275, yy275, zz275⟩, st275⟩ := X265.virtualBack hx (y := own_y17) (z := own_y17) ho265 (mvT hZ265 w_20) (mvT hZ265 w_21) (notFace_of_selects (args := #[]) (mvT hZ265 w_23)) (mvT hZ265 w_23) (mvT hZ265 w_22) (by decide) (backOf (W := 0) (own_ae l Z a0 hw [] a247 (3 : Int32) (8 : Int32) T265.heap n0 gpo265 geo265) hZ265 w_24 w_4 (by decide) (by decide)) qa275 qc275 (g := (mkF m 168 #[iv p0, iv p1, iv (1 : Int32), iv (1 : Int32), iv (3 : Int32), rv a203, rv a247, iv (1 : Int32), rv b265, .unset] [(.ref a247)])) rfl (by rw [hml]; rfl) (Steps.refl _) (argsL := []) (rest := []) (lenOf own_pd12 rfl) rfl (by show 2 * 0 + _ ≤ _; exact own_b rfl) (hb hby at_168) (fun _ _ => ⟨rfl, rfl, (own_b rfl : 5 + 0 ≤ _), (own_b rfl : 50 + 0 ≤ _)⟩)
      dsimp only [Pt.U, Pt.locs, Pt.cells, Pt.slots] at X275 l275 yy275 zz275 st275 hQ275
      obtain ⟨rfl, Nq275, eq275⟩ := hQ275
      obtain ⟨L275, X275, N275⟩ := own_absC (K := 5) (K' := 50) X275 l275 yy275 zz275 N265 Nq275
      have e275 : T275.heap = T265.heap := eq275
      refine own_tr (B := (T275.setTop (mkF m 171 #[iv p0, iv p1, iv (1 : Int32), iv (1 : Int32), iv (3 : Int32), rv a203, rv a247, iv (1 : Int32), rv b265, .unset] [(.int (own_eqr (3 : Int32) (8 : Int32)))]))) st275 ?_
      rw [show own_eqr (3 : Int32) (8 : Int32) = (0 : Int32) from by decide]
      refine own_go (B := (T275.setTop (mkF m 172 #[iv p0, iv p1, iv (1 : Int32), iv (1 : Int32), iv (3 : Int32), rv a203, rv a247, iv (1 : Int32), rv b265, .unset] [(.int (1 : Int32)), (.int (0 : Int32))]))) (fun t k => XS.iloadN X275.here hx rfl (hb hby at_171) rfl k) ?_
      refine own_go (B := (T275.setTop (mkF m 174 #[iv p0, iv p1, iv (1 : Int32), iv (1 : Int32), iv (3 : Int32), rv a203, rv a247, iv (1 : Int32), rv b265, .unset] [(.int (6 : Int32)), (.int (1 : Int32)), (.int (0 : Int32))]))) (fun t k => own_bipush (v := (6 : Int32)) X275.here hx rfl (hb hby at_172) (by decide) k) ?_
      have hc174 : ¬ (1 : Int32) = (6 : Int32) := (by decide)
      refine own_icmpY X275 hx (hb hby at_174) (pc' := 181) (by decide) (by decide) hc174 ?_
      refine own_go (B := (T275.setTop (mkF m 182 #[iv p0, iv p1, iv (1 : Int32), iv (1 : Int32), iv (3 : Int32), rv a203, rv a247, iv (1 : Int32), rv b265, .unset] [(.int (0 : Int32)), (.int (0 : Int32))]))) (fun t k => own_iconst (v := (0 : Int32)) X275.here hx rfl (hb hby at_181) (by decide) k) ?_
      have hc182 : (0 : Int32) = (0 : Int32) := (by decide)
      refine own_icmpN X275 hx (hb hby at_182) (pn := 185) rfl hc182 ?_
      refine own_go (B := (T275.setTop (mkF m 186 #[iv p0, iv p1, iv (1 : Int32), iv (1 : Int32), iv (3 : Int32), rv a203, rv a247, iv (1 : Int32), rv b265, .unset] [(.int (1 : Int32))]))) (fun t k => own_iconst (v := (1 : Int32)) X275.here hx rfl (hb hby at_185) (by decide) k) ?_
      refine own_go (B := (T275.setTop (mkF m 190 #[iv p0, iv p1, iv (1 : Int32), iv (1 : Int32), iv (3 : Int32), rv a203, rv a247, iv (1 : Int32), rv b265, .unset] [(.int (1 : Int32))]))) (fun t k => XS.goto X275.here hx rfl (pc0 := 186) (pc' := 190) rfl (hb hby at_186) (by decide) (by decide) k) ?_
      refine own_go (B := (T275.setTop (mkF m 192 #[iv p0, iv p1, iv (1 : Int32), iv (1 : Int32), iv (3 : Int32), rv a203, rv a247, iv (1 : Int32), rv b265, .unset] []))) (fun t k => XS.istore X275.here hx rfl (hb hby at_190) rfl (l' := #[iv p0, iv p1, iv (1 : Int32), iv (1 : Int32), iv (3 : Int32), rv a203, rv a247, iv (1 : Int32), rv b265, .unset]) rfl k) ?_
      refine own_go (B := (T275.setTop (mkF m 194 #[iv p0, iv p1, iv (1 : Int32), iv (1 : Int32), iv (3 : Int32), rv a203, rv a247, iv (1 : Int32), rv b265, .unset] [(.int (1 : Int32))]))) (fun t k => XS.iload X275.here hx rfl (hb hby at_192) rfl k) ?_
      have hc194 : ¬ (1 : Int32) = (0 : Int32) := (by decide)
      refine own_ifN X275 hx (hb hby at_194) (pn := 197) rfl hc194 ?_
      refine own_go (B := (T275.setTop (mkF m 199 #[iv p0, iv p1, iv (1 : Int32), iv (1 : Int32), iv (3 : Int32), rv a203, rv a247, iv (1 : Int32), rv b265, .unset] [(.ref b265)]))) (fun t k => XS.aload X275.here hx rfl (hb hby at_197) rfl rfl k) ?_
      obtain ⟨cq276, kq276, qa276, qb276, qc276⟩ := isOf hZ265 e275 Exi265
      obtain ⟨_, _, ⟨T276, L276, k276, n276⟩, -, X276, ⟨Lc276, hQ276, l276, yy276, zz276⟩, st276⟩ := X275.virtualBack hx (y := own_y17) (z := own_y17) ho265 (mvT hZ265 w_20) (mvT hZ265 w_21) (notFace_of_selects (args := #[]) (mvT hZ265 w_23)) (mvT hZ265 w_23) (mvT hZ265 w_22) (by decide) (backOf (W := 0) (own_ae l Z a0 hw [] b265 (2 : Int32) (3 : Int32) T265.heap n0 gpi265 gei265) hZ265 w_24 w_4 (by decide) (by decide)) qa276 qc276 (g := (mkF m 199 #[iv p0, iv p1, iv (1 : Int32), iv (1 : Int32), iv (3 : Int32), rv a203, rv a247, iv (1 : Int32), rv b265, .unset] [(.ref b265)])) rfl (by rw [hml]; rfl) (Steps.refl _) (argsL := []) (rest := []) (lenOf own_pd12 rfl) rfl (by show 2 * 0 + _ ≤ _; exact own_b rfl) (hb hby at_199) (fun _ _ => ⟨rfl, e275, (own_b rfl : 5 + 0 ≤ _), (own_b rfl : 50 + 0 ≤ _)⟩)
      dsimp only [Pt.U, Pt.locs, Pt.cells, Pt.slots] at X276 l276 yy276 zz276 st276 hQ276
      obtain ⟨rfl, Nq276, eq276⟩ := hQ276
      obtain ⟨L276, X276, N276⟩ := own_absC (K := 5) (K' := 50) X276 l276 yy276 zz276 N275 Nq276
      have e276 : T276.heap = T265.heap := eq276
      refine own_tr (B := (T276.setTop (mkF m 202 #[iv p0, iv p1, iv (1 : Int32), iv (1 : Int32), iv (3 : Int32), rv a203, rv a247, iv (1 : Int32), rv b265, .unset] [(.int (own_eqr (2 : Int32) (3 : Int32)))]))) st276 ?_
      rw [show own_eqr (2 : Int32) (3 : Int32) = (0 : Int32) from by decide]
      refine own_go (B := (T276.setTop (mkF m 203 #[iv p0, iv p1, iv (1 : Int32), iv (1 : Int32), iv (3 : Int32), rv a203, rv a247, iv (1 : Int32), rv b265, .unset] [(.int (1 : Int32)), (.int (0 : Int32))]))) (fun t k => XS.iloadN X276.here hx rfl (hb hby at_202) rfl k) ?_
      have hc203 : ¬ (1 : Int32) = (0 : Int32) := (by decide)
      refine own_ifY X276 hx (hb hby at_203) (pc' := 210) (by decide) (by decide) hc203 ?_
      refine own_go (B := (T276.setTop (mkF m 211 #[iv p0, iv p1, iv (1 : Int32), iv (1 : Int32), iv (3 : Int32), rv a203, rv a247, iv (1 : Int32), rv b265, .unset] [(.int (0 : Int32)), (.int (0 : Int32))]))) (fun t k => own_iconst (v := (0 : Int32)) X276.here hx rfl (hb hby at_210) (by decide) k) ?_
      have hc211 : (0 : Int32) = (0 : Int32) := (by decide)
      refine own_icmpN X276 hx (hb hby at_211) (pn := 214) rfl hc211 ?_
      refine own_go (B := (T276.setTop (mkF m 215 #[iv p0, iv p1, iv (1 : Int32), iv (1 : Int32), iv (3 : Int32), rv a203, rv a247, iv (1 : Int32), rv b265, .unset] [(.int (1 : Int32))]))) (fun t k => own_iconst (v := (1 : Int32)) X276.here hx rfl (hb hby at_214) (by decide) k) ?_
      refine own_go (B := (T276.setTop (mkF m 219 #[iv p0, iv p1, iv (1 : Int32), iv (1 : Int32), iv (3 : Int32), rv a203, rv a247, iv (1 : Int32), rv b265, .unset] [(.int (1 : Int32))]))) (fun t k => XS.goto X276.here hx rfl (pc0 := 215) (pc' := 219) rfl (hb hby at_215) (by decide) (by decide) k) ?_
      refine own_go (B := (T276.setTop (mkF m 221 #[iv p0, iv p1, iv (1 : Int32), iv (1 : Int32), iv (3 : Int32), rv a203, rv a247, iv (1 : Int32), rv b265, .unset] []))) (fun t k => XS.istore X276.here hx rfl (hb hby at_219) rfl (l' := #[iv p0, iv p1, iv (1 : Int32), iv (1 : Int32), iv (3 : Int32), rv a203, rv a247, iv (1 : Int32), rv b265, .unset]) rfl k) ?_
      refine own_go (B := (T276.setTop (mkF m 222 #[iv p0, iv p1, iv (1 : Int32), iv (1 : Int32), iv (3 : Int32), rv a203, rv a247, iv (1 : Int32), rv b265, .unset] [(.int (1 : Int32))]))) (fun t k => XS.iloadN X276.here hx rfl (hb hby at_221) rfl k) ?_
      refine own_go (B := (T276.setTop (mkF m 224 #[iv p0, iv p1, iv (1 : Int32), iv (1 : Int32), iv (3 : Int32), rv a203, rv a247, iv (1 : Int32), rv b265, .unset] [(.int (3 : Int32)), (.int (1 : Int32))]))) (fun t k => XS.iload X276.here hx rfl (hb hby at_222) rfl k) ?_
      refine own_go (B := (T276.setTop (mkF m 225 #[iv p0, iv p1, iv (1 : Int32), iv (1 : Int32), iv (3 : Int32), rv a203, rv a247, iv (1 : Int32), rv b265, .unset] [(.int ((1 : Int32) / (3 : Int32)))]))) (fun t k => XS.idiv (x := (1 : Int32)) (y := (3 : Int32)) X276.here hx rfl (hb hby at_224) rfl (by decide) k) ?_
      rw [show ((1 : Int32) / (3 : Int32)) = (0 : Int32) from by decide]
      refine own_go (B := (T276.setTop (mkF m 227 #[iv p0, iv p1, iv (1 : Int32), iv (1 : Int32), iv (3 : Int32), rv a203, rv a247, iv (1 : Int32), rv b265, iv (0 : Int32)] []))) (fun t k => XS.istore X276.here hx rfl (hb hby at_225) rfl (l' := #[iv p0, iv p1, iv (1 : Int32), iv (1 : Int32), iv (3 : Int32), rv a203, rv a247, iv (1 : Int32), rv b265, iv (0 : Int32)]) rfl k) ?_
      refine own_go (B := (T276.setTop (mkF m 229 #[iv p0, iv p1, iv (1 : Int32), iv (1 : Int32), iv (3 : Int32), rv a203, rv a247, iv (1 : Int32), rv b265, iv (0 : Int32)] [(.int (0 : Int32))]))) (fun t k => XS.iload X276.here hx rfl (hb hby at_227) rfl k) ?_
      refine own_go (B := (T276.setTop (mkF m 230 #[iv p0, iv p1, iv (1 : Int32), iv (1 : Int32), iv (3 : Int32), rv a203, rv a247, iv (1 : Int32), rv b265, iv (0 : Int32)] [(.int (1 : Int32)), (.int (0 : Int32))]))) (fun t k => own_iconst (v := (1 : Int32)) X276.here hx rfl (hb hby at_229) (by decide) k) ?_
      have hc230 : (0 : Int32) < (1 : Int32) := (by decide)
      refine own_icmpY X276 hx (hb hby at_230) (pc' := 270) (by decide) (by decide) hc230 ?_
      refine own_go (B := (T276.setTop (mkF m 272 #[iv p0, iv p1, iv (1 : Int32), iv (1 : Int32), iv (3 : Int32), rv a203, rv a247, iv (1 : Int32), rv b265, iv (0 : Int32)] [(.int (0 : Int32))]))) (fun t k => XS.iload X276.here hx rfl (hb hby at_270) rfl k) ?_
      refine own_go (B := (T276.setTop (mkF m 273 #[iv p0, iv p1, iv (1 : Int32), iv (1 : Int32), iv (3 : Int32), rv a203, rv a247, iv (1 : Int32), rv b265, iv (0 : Int32)] [(.int (2 : Int32)), (.int (0 : Int32))]))) (fun t k => own_iconst (v := (2 : Int32)) X276.here hx rfl (hb hby at_272) (by decide) k) ?_
      have hc273 : (0 : Int32) < (2 : Int32) := (by decide)
      refine own_icmpY X276 hx (hb hby at_273) (pc' := 315) (by decide) (by decide) hc273 ?_
      refine own_go (B := (T276.setTop (mkF m 317 #[iv p0, iv p1, iv (1 : Int32), iv (1 : Int32), iv (3 : Int32), rv a203, rv a247, iv (1 : Int32), rv b265, iv (0 : Int32)] [(.int (0 : Int32))]))) (fun t k => XS.iload X276.here hx rfl (hb hby at_315) rfl k) ?_
      refine own_go (B := (T276.setTop (mkF m 318 #[iv p0, iv p1, iv (1 : Int32), iv (1 : Int32), iv (3 : Int32), rv a203, rv a247, iv (1 : Int32), rv b265, iv (0 : Int32)] [(.int (3 : Int32)), (.int (0 : Int32))]))) (fun t k => own_iconst (v := (3 : Int32)) X276.here hx rfl (hb hby at_317) (by decide) k) ?_
      have hc318 : (0 : Int32) < (3 : Int32) := (by decide)
      refine own_icmpY X276 hx (hb hby at_318) (pc' := 360) (by decide) (by decide) hc318 ?_
      refine own_go (B := (T276.setTop (mkF m 362 #[iv p0, iv p1, iv (1 : Int32), iv (1 : Int32), iv (3 : Int32), rv a203, rv a247, iv (1 : Int32), rv b265, iv (0 : Int32)] [(.int (1 : Int32))]))) (fun t k => XS.iload X276.here hx rfl (hb hby at_360) rfl k) ?_
      exact own_retWZ X276 hx hlk hS265 (by rw [e276]; exact hk265) Bd.returns (hb hby at_362) (by decide) (own_b rfl) (own_b rfl) (Q := (own_law_Q Z p0 p1 zz zm h0 n0)) ⟨rfl, N276⟩
    · obtain rfl : pe = (4 : Int32) := hpe.trans (by decide)
      refine own_go (B := (T265.setTop (mkF m 161 #[iv p0, iv p1, iv (2 : Int32), iv (1 : Int32), iv (3 : Int32), rv a203, rv a247, iv (1 : Int32), rv b265, .unset] []))) (fun t k => XS.astore X265.here hx rfl (hb hby at_159) rfl rfl (l' := #[iv p0, iv p1, iv (2 : Int32), iv (1 : Int32), iv (3 : Int32), rv a203, rv a247, iv (1 : Int32), rv b265, .unset]) rfl k) ?_
      refine own_go (B := (T265.setTop (mkF m 163 #[iv p0, iv p1, iv (2 : Int32), iv (1 : Int32), iv (3 : Int32), rv a203, rv a247, iv (1 : Int32), rv b265, .unset] [(.int (1 : Int32))]))) (fun t k => XS.iload X265.here hx rfl (hb hby at_161) rfl k) ?_
      have hc163 : ¬ (1 : Int32) = (0 : Int32) := (by decide)
      refine own_ifN X265 hx (hb hby at_163) (pn := 166) rfl hc163 ?_
      refine own_go (B := (T265.setTop (mkF m 168 #[iv p0, iv p1, iv (2 : Int32), iv (1 : Int32), iv (3 : Int32), rv a203, rv a247, iv (1 : Int32), rv b265, .unset] [(.ref a247)]))) (fun t k => XS.aload X265.here hx rfl (hb hby at_166) rfl rfl k) ?_
      obtain ⟨cq277, kq277, qa277, qb277, qc277⟩ := isOf hZ265 rfl Exo265
      obtain ⟨_, _, ⟨T277, L277, k277, n277⟩, -, X277, ⟨Lc277, hQ277, l277, yy277, zz277⟩, st277⟩ := X265.virtualBack hx (y := own_y17) (z := own_y17) ho265 (mvT hZ265 w_20) (mvT hZ265 w_21) (notFace_of_selects (args := #[]) (mvT hZ265 w_23)) (mvT hZ265 w_23) (mvT hZ265 w_22) (by decide) (backOf (W := 0) (own_ae l Z a0 hw [] a247 (4 : Int32) (8 : Int32) T265.heap n0 gpo265 geo265) hZ265 w_24 w_4 (by decide) (by decide)) qa277 qc277 (g := (mkF m 168 #[iv p0, iv p1, iv (2 : Int32), iv (1 : Int32), iv (3 : Int32), rv a203, rv a247, iv (1 : Int32), rv b265, .unset] [(.ref a247)])) rfl (by rw [hml]; rfl) (Steps.refl _) (argsL := []) (rest := []) (lenOf own_pd12 rfl) rfl (by show 2 * 0 + _ ≤ _; exact own_b rfl) (hb hby at_168) (fun _ _ => ⟨rfl, rfl, (own_b rfl : 5 + 0 ≤ _), (own_b rfl : 50 + 0 ≤ _)⟩)
      dsimp only [Pt.U, Pt.locs, Pt.cells, Pt.slots] at X277 l277 yy277 zz277 st277 hQ277
      obtain ⟨rfl, Nq277, eq277⟩ := hQ277
      obtain ⟨L277, X277, N277⟩ := own_absC (K := 5) (K' := 50) X277 l277 yy277 zz277 N265 Nq277
      have e277 : T277.heap = T265.heap := eq277
      refine own_tr (B := (T277.setTop (mkF m 171 #[iv p0, iv p1, iv (2 : Int32), iv (1 : Int32), iv (3 : Int32), rv a203, rv a247, iv (1 : Int32), rv b265, .unset] [(.int (own_eqr (4 : Int32) (8 : Int32)))]))) st277 ?_
      rw [show own_eqr (4 : Int32) (8 : Int32) = (0 : Int32) from by decide]
      refine own_go (B := (T277.setTop (mkF m 172 #[iv p0, iv p1, iv (2 : Int32), iv (1 : Int32), iv (3 : Int32), rv a203, rv a247, iv (1 : Int32), rv b265, .unset] [(.int (2 : Int32)), (.int (0 : Int32))]))) (fun t k => XS.iloadN X277.here hx rfl (hb hby at_171) rfl k) ?_
      refine own_go (B := (T277.setTop (mkF m 174 #[iv p0, iv p1, iv (2 : Int32), iv (1 : Int32), iv (3 : Int32), rv a203, rv a247, iv (1 : Int32), rv b265, .unset] [(.int (6 : Int32)), (.int (2 : Int32)), (.int (0 : Int32))]))) (fun t k => own_bipush (v := (6 : Int32)) X277.here hx rfl (hb hby at_172) (by decide) k) ?_
      have hc174 : ¬ (2 : Int32) = (6 : Int32) := (by decide)
      refine own_icmpY X277 hx (hb hby at_174) (pc' := 181) (by decide) (by decide) hc174 ?_
      refine own_go (B := (T277.setTop (mkF m 182 #[iv p0, iv p1, iv (2 : Int32), iv (1 : Int32), iv (3 : Int32), rv a203, rv a247, iv (1 : Int32), rv b265, .unset] [(.int (0 : Int32)), (.int (0 : Int32))]))) (fun t k => own_iconst (v := (0 : Int32)) X277.here hx rfl (hb hby at_181) (by decide) k) ?_
      have hc182 : (0 : Int32) = (0 : Int32) := (by decide)
      refine own_icmpN X277 hx (hb hby at_182) (pn := 185) rfl hc182 ?_
      refine own_go (B := (T277.setTop (mkF m 186 #[iv p0, iv p1, iv (2 : Int32), iv (1 : Int32), iv (3 : Int32), rv a203, rv a247, iv (1 : Int32), rv b265, .unset] [(.int (1 : Int32))]))) (fun t k => own_iconst (v := (1 : Int32)) X277.here hx rfl (hb hby at_185) (by decide) k) ?_
      refine own_go (B := (T277.setTop (mkF m 190 #[iv p0, iv p1, iv (2 : Int32), iv (1 : Int32), iv (3 : Int32), rv a203, rv a247, iv (1 : Int32), rv b265, .unset] [(.int (1 : Int32))]))) (fun t k => XS.goto X277.here hx rfl (pc0 := 186) (pc' := 190) rfl (hb hby at_186) (by decide) (by decide) k) ?_
      refine own_go (B := (T277.setTop (mkF m 192 #[iv p0, iv p1, iv (2 : Int32), iv (1 : Int32), iv (3 : Int32), rv a203, rv a247, iv (1 : Int32), rv b265, .unset] []))) (fun t k => XS.istore X277.here hx rfl (hb hby at_190) rfl (l' := #[iv p0, iv p1, iv (2 : Int32), iv (1 : Int32), iv (3 : Int32), rv a203, rv a247, iv (1 : Int32), rv b265, .unset]) rfl k) ?_
      refine own_go (B := (T277.setTop (mkF m 194 #[iv p0, iv p1, iv (2 : Int32), iv (1 : Int32), iv (3 : Int32), rv a203, rv a247, iv (1 : Int32), rv b265, .unset] [(.int (1 : Int32))]))) (fun t k => XS.iload X277.here hx rfl (hb hby at_192) rfl k) ?_
      have hc194 : ¬ (1 : Int32) = (0 : Int32) := (by decide)
      refine own_ifN X277 hx (hb hby at_194) (pn := 197) rfl hc194 ?_
      refine own_go (B := (T277.setTop (mkF m 199 #[iv p0, iv p1, iv (2 : Int32), iv (1 : Int32), iv (3 : Int32), rv a203, rv a247, iv (1 : Int32), rv b265, .unset] [(.ref b265)]))) (fun t k => XS.aload X277.here hx rfl (hb hby at_197) rfl rfl k) ?_
      obtain ⟨cq278, kq278, qa278, qb278, qc278⟩ := isOf hZ265 e277 Exi265
      obtain ⟨_, _, ⟨T278, L278, k278, n278⟩, -, X278, ⟨Lc278, hQ278, l278, yy278, zz278⟩, st278⟩ := X277.virtualBack hx (y := own_y17) (z := own_y17) ho265 (mvT hZ265 w_20) (mvT hZ265 w_21) (notFace_of_selects (args := #[]) (mvT hZ265 w_23)) (mvT hZ265 w_23) (mvT hZ265 w_22) (by decide) (backOf (W := 0) (own_ae l Z a0 hw [] b265 (2 : Int32) (4 : Int32) T265.heap n0 gpi265 gei265) hZ265 w_24 w_4 (by decide) (by decide)) qa278 qc278 (g := (mkF m 199 #[iv p0, iv p1, iv (2 : Int32), iv (1 : Int32), iv (3 : Int32), rv a203, rv a247, iv (1 : Int32), rv b265, .unset] [(.ref b265)])) rfl (by rw [hml]; rfl) (Steps.refl _) (argsL := []) (rest := []) (lenOf own_pd12 rfl) rfl (by show 2 * 0 + _ ≤ _; exact own_b rfl) (hb hby at_199) (fun _ _ => ⟨rfl, e277, (own_b rfl : 5 + 0 ≤ _), (own_b rfl : 50 + 0 ≤ _)⟩)
      dsimp only [Pt.U, Pt.locs, Pt.cells, Pt.slots] at X278 l278 yy278 zz278 st278 hQ278
      obtain ⟨rfl, Nq278, eq278⟩ := hQ278
      obtain ⟨L278, X278, N278⟩ := own_absC (K := 5) (K' := 50) X278 l278 yy278 zz278 N277 Nq278
      have e278 : T278.heap = T265.heap := eq278
      refine own_tr (B := (T278.setTop (mkF m 202 #[iv p0, iv p1, iv (2 : Int32), iv (1 : Int32), iv (3 : Int32), rv a203, rv a247, iv (1 : Int32), rv b265, .unset] [(.int (own_eqr (2 : Int32) (4 : Int32)))]))) st278 ?_
      rw [show own_eqr (2 : Int32) (4 : Int32) = (0 : Int32) from by decide]
      refine own_go (B := (T278.setTop (mkF m 203 #[iv p0, iv p1, iv (2 : Int32), iv (1 : Int32), iv (3 : Int32), rv a203, rv a247, iv (1 : Int32), rv b265, .unset] [(.int (2 : Int32)), (.int (0 : Int32))]))) (fun t k => XS.iloadN X278.here hx rfl (hb hby at_202) rfl k) ?_
      have hc203 : ¬ (2 : Int32) = (0 : Int32) := (by decide)
      refine own_ifY X278 hx (hb hby at_203) (pc' := 210) (by decide) (by decide) hc203 ?_
      refine own_go (B := (T278.setTop (mkF m 211 #[iv p0, iv p1, iv (2 : Int32), iv (1 : Int32), iv (3 : Int32), rv a203, rv a247, iv (1 : Int32), rv b265, .unset] [(.int (0 : Int32)), (.int (0 : Int32))]))) (fun t k => own_iconst (v := (0 : Int32)) X278.here hx rfl (hb hby at_210) (by decide) k) ?_
      have hc211 : (0 : Int32) = (0 : Int32) := (by decide)
      refine own_icmpN X278 hx (hb hby at_211) (pn := 214) rfl hc211 ?_
      refine own_go (B := (T278.setTop (mkF m 215 #[iv p0, iv p1, iv (2 : Int32), iv (1 : Int32), iv (3 : Int32), rv a203, rv a247, iv (1 : Int32), rv b265, .unset] [(.int (1 : Int32))]))) (fun t k => own_iconst (v := (1 : Int32)) X278.here hx rfl (hb hby at_214) (by decide) k) ?_
      refine own_go (B := (T278.setTop (mkF m 219 #[iv p0, iv p1, iv (2 : Int32), iv (1 : Int32), iv (3 : Int32), rv a203, rv a247, iv (1 : Int32), rv b265, .unset] [(.int (1 : Int32))]))) (fun t k => XS.goto X278.here hx rfl (pc0 := 215) (pc' := 219) rfl (hb hby at_215) (by decide) (by decide) k) ?_
      refine own_go (B := (T278.setTop (mkF m 221 #[iv p0, iv p1, iv (2 : Int32), iv (1 : Int32), iv (3 : Int32), rv a203, rv a247, iv (1 : Int32), rv b265, .unset] []))) (fun t k => XS.istore X278.here hx rfl (hb hby at_219) rfl (l' := #[iv p0, iv p1, iv (2 : Int32), iv (1 : Int32), iv (3 : Int32), rv a203, rv a247, iv (1 : Int32), rv b265, .unset]) rfl k) ?_
      refine own_go (B := (T278.setTop (mkF m 222 #[iv p0, iv p1, iv (2 : Int32), iv (1 : Int32), iv (3 : Int32), rv a203, rv a247, iv (1 : Int32), rv b265, .unset] [(.int (2 : Int32))]))) (fun t k => XS.iloadN X278.here hx rfl (hb hby at_221) rfl k) ?_
      refine own_go (B := (T278.setTop (mkF m 224 #[iv p0, iv p1, iv (2 : Int32), iv (1 : Int32), iv (3 : Int32), rv a203, rv a247, iv (1 : Int32), rv b265, .unset] [(.int (3 : Int32)), (.int (2 : Int32))]))) (fun t k => XS.iload X278.here hx rfl (hb hby at_222) rfl k) ?_
      refine own_go (B := (T278.setTop (mkF m 225 #[iv p0, iv p1, iv (2 : Int32), iv (1 : Int32), iv (3 : Int32), rv a203, rv a247, iv (1 : Int32), rv b265, .unset] [(.int ((2 : Int32) / (3 : Int32)))]))) (fun t k => XS.idiv (x := (2 : Int32)) (y := (3 : Int32)) X278.here hx rfl (hb hby at_224) rfl (by decide) k) ?_
      rw [show ((2 : Int32) / (3 : Int32)) = (0 : Int32) from by decide]
      refine own_go (B := (T278.setTop (mkF m 227 #[iv p0, iv p1, iv (2 : Int32), iv (1 : Int32), iv (3 : Int32), rv a203, rv a247, iv (1 : Int32), rv b265, iv (0 : Int32)] []))) (fun t k => XS.istore X278.here hx rfl (hb hby at_225) rfl (l' := #[iv p0, iv p1, iv (2 : Int32), iv (1 : Int32), iv (3 : Int32), rv a203, rv a247, iv (1 : Int32), rv b265, iv (0 : Int32)]) rfl k) ?_
      refine own_go (B := (T278.setTop (mkF m 229 #[iv p0, iv p1, iv (2 : Int32), iv (1 : Int32), iv (3 : Int32), rv a203, rv a247, iv (1 : Int32), rv b265, iv (0 : Int32)] [(.int (0 : Int32))]))) (fun t k => XS.iload X278.here hx rfl (hb hby at_227) rfl k) ?_
      refine own_go (B := (T278.setTop (mkF m 230 #[iv p0, iv p1, iv (2 : Int32), iv (1 : Int32), iv (3 : Int32), rv a203, rv a247, iv (1 : Int32), rv b265, iv (0 : Int32)] [(.int (1 : Int32)), (.int (0 : Int32))]))) (fun t k => own_iconst (v := (1 : Int32)) X278.here hx rfl (hb hby at_229) (by decide) k) ?_
      have hc230 : (0 : Int32) < (1 : Int32) := (by decide)
      refine own_icmpY X278 hx (hb hby at_230) (pc' := 270) (by decide) (by decide) hc230 ?_
      refine own_go (B := (T278.setTop (mkF m 272 #[iv p0, iv p1, iv (2 : Int32), iv (1 : Int32), iv (3 : Int32), rv a203, rv a247, iv (1 : Int32), rv b265, iv (0 : Int32)] [(.int (0 : Int32))]))) (fun t k => XS.iload X278.here hx rfl (hb hby at_270) rfl k) ?_
      refine own_go (B := (T278.setTop (mkF m 273 #[iv p0, iv p1, iv (2 : Int32), iv (1 : Int32), iv (3 : Int32), rv a203, rv a247, iv (1 : Int32), rv b265, iv (0 : Int32)] [(.int (2 : Int32)), (.int (0 : Int32))]))) (fun t k => own_iconst (v := (2 : Int32)) X278.here hx rfl (hb hby at_272) (by decide) k) ?_
      have hc273 : (0 : Int32) < (2 : Int32) := (by decide)
      refine own_icmpY X278 hx (hb hby at_273) (pc' := 315) (by decide) (by decide) hc273 ?_
      refine own_go (B := (T278.setTop (mkF m 317 #[iv p0, iv p1, iv (2 : Int32), iv (1 : Int32), iv (3 : Int32), rv a203, rv a247, iv (1 : Int32), rv b265, iv (0 : Int32)] [(.int (0 : Int32))]))) (fun t k => XS.iload X278.here hx rfl (hb hby at_315) rfl k) ?_
      refine own_go (B := (T278.setTop (mkF m 318 #[iv p0, iv p1, iv (2 : Int32), iv (1 : Int32), iv (3 : Int32), rv a203, rv a247, iv (1 : Int32), rv b265, iv (0 : Int32)] [(.int (3 : Int32)), (.int (0 : Int32))]))) (fun t k => own_iconst (v := (3 : Int32)) X278.here hx rfl (hb hby at_317) (by decide) k) ?_
      have hc318 : (0 : Int32) < (3 : Int32) := (by decide)
      refine own_icmpY X278 hx (hb hby at_318) (pc' := 360) (by decide) (by decide) hc318 ?_
      refine own_go (B := (T278.setTop (mkF m 362 #[iv p0, iv p1, iv (2 : Int32), iv (1 : Int32), iv (3 : Int32), rv a203, rv a247, iv (1 : Int32), rv b265, iv (0 : Int32)] [(.int (1 : Int32))]))) (fun t k => XS.iload X278.here hx rfl (hb hby at_360) rfl k) ?_
      exact own_retWZ X278 hx hlk hS265 (by rw [e278]; exact hk265) Bd.returns (hb hby at_362) (by decide) (own_b rfl) (own_b rfl) (Q := (own_law_Q Z p0 p1 zz zm h0 n0)) ⟨rfl, N278⟩
    · obtain rfl : pe = (5 : Int32) := hpe.trans (by decide)
      refine own_go (B := (T265.setTop (mkF m 161 #[iv p0, iv p1, iv (3 : Int32), iv (1 : Int32), iv (3 : Int32), rv a203, rv a247, iv (1 : Int32), rv b265, .unset] []))) (fun t k => XS.astore X265.here hx rfl (hb hby at_159) rfl rfl (l' := #[iv p0, iv p1, iv (3 : Int32), iv (1 : Int32), iv (3 : Int32), rv a203, rv a247, iv (1 : Int32), rv b265, .unset]) rfl k) ?_
      refine own_go (B := (T265.setTop (mkF m 163 #[iv p0, iv p1, iv (3 : Int32), iv (1 : Int32), iv (3 : Int32), rv a203, rv a247, iv (1 : Int32), rv b265, .unset] [(.int (1 : Int32))]))) (fun t k => XS.iload X265.here hx rfl (hb hby at_161) rfl k) ?_
      have hc163 : ¬ (1 : Int32) = (0 : Int32) := (by decide)
      refine own_ifN X265 hx (hb hby at_163) (pn := 166) rfl hc163 ?_
      refine own_go (B := (T265.setTop (mkF m 168 #[iv p0, iv p1, iv (3 : Int32), iv (1 : Int32), iv (3 : Int32), rv a203, rv a247, iv (1 : Int32), rv b265, .unset] [(.ref a247)]))) (fun t k => XS.aload X265.here hx rfl (hb hby at_166) rfl rfl k) ?_
      obtain ⟨cq279, kq279, qa279, qb279, qc279⟩ := isOf hZ265 rfl Exo265
      obtain ⟨_, _, ⟨T279, L279, k279, n279⟩, -, X279, ⟨Lc279, hQ279, l279, yy279, zz279⟩, st279⟩ := X265.virtualBack hx (y := own_y17) (z := own_y17) ho265 (mvT hZ265 w_20) (mvT hZ265 w_21) (notFace_of_selects (args := #[]) (mvT hZ265 w_23)) (mvT hZ265 w_23) (mvT hZ265 w_22) (by decide) (backOf (W := 0) (own_ae l Z a0 hw [] a247 (5 : Int32) (8 : Int32) T265.heap n0 gpo265 geo265) hZ265 w_24 w_4 (by decide) (by decide)) qa279 qc279 (g := (mkF m 168 #[iv p0, iv p1, iv (3 : Int32), iv (1 : Int32), iv (3 : Int32), rv a203, rv a247, iv (1 : Int32), rv b265, .unset] [(.ref a247)])) rfl (by rw [hml]; rfl) (Steps.refl _) (argsL := []) (rest := []) (lenOf own_pd12 rfl) rfl (by show 2 * 0 + _ ≤ _; exact own_b rfl) (hb hby at_168) (fun _ _ => ⟨rfl, rfl, (own_b rfl : 5 + 0 ≤ _), (own_b rfl : 50 + 0 ≤ _)⟩)
      dsimp only [Pt.U, Pt.locs, Pt.cells, Pt.slots] at X279 l279 yy279 zz279 st279 hQ279
      obtain ⟨rfl, Nq279, eq279⟩ := hQ279
      obtain ⟨L279, X279, N279⟩ := own_absC (K := 5) (K' := 50) X279 l279 yy279 zz279 N265 Nq279
      have e279 : T279.heap = T265.heap := eq279
      refine own_tr (B := (T279.setTop (mkF m 171 #[iv p0, iv p1, iv (3 : Int32), iv (1 : Int32), iv (3 : Int32), rv a203, rv a247, iv (1 : Int32), rv b265, .unset] [(.int (own_eqr (5 : Int32) (8 : Int32)))]))) st279 ?_
      rw [show own_eqr (5 : Int32) (8 : Int32) = (0 : Int32) from by decide]
      refine own_go (B := (T279.setTop (mkF m 172 #[iv p0, iv p1, iv (3 : Int32), iv (1 : Int32), iv (3 : Int32), rv a203, rv a247, iv (1 : Int32), rv b265, .unset] [(.int (3 : Int32)), (.int (0 : Int32))]))) (fun t k => XS.iloadN X279.here hx rfl (hb hby at_171) rfl k) ?_
      refine own_go (B := (T279.setTop (mkF m 174 #[iv p0, iv p1, iv (3 : Int32), iv (1 : Int32), iv (3 : Int32), rv a203, rv a247, iv (1 : Int32), rv b265, .unset] [(.int (6 : Int32)), (.int (3 : Int32)), (.int (0 : Int32))]))) (fun t k => own_bipush (v := (6 : Int32)) X279.here hx rfl (hb hby at_172) (by decide) k) ?_
      have hc174 : ¬ (3 : Int32) = (6 : Int32) := (by decide)
      refine own_icmpY X279 hx (hb hby at_174) (pc' := 181) (by decide) (by decide) hc174 ?_
      refine own_go (B := (T279.setTop (mkF m 182 #[iv p0, iv p1, iv (3 : Int32), iv (1 : Int32), iv (3 : Int32), rv a203, rv a247, iv (1 : Int32), rv b265, .unset] [(.int (0 : Int32)), (.int (0 : Int32))]))) (fun t k => own_iconst (v := (0 : Int32)) X279.here hx rfl (hb hby at_181) (by decide) k) ?_
      have hc182 : (0 : Int32) = (0 : Int32) := (by decide)
      refine own_icmpN X279 hx (hb hby at_182) (pn := 185) rfl hc182 ?_
      refine own_go (B := (T279.setTop (mkF m 186 #[iv p0, iv p1, iv (3 : Int32), iv (1 : Int32), iv (3 : Int32), rv a203, rv a247, iv (1 : Int32), rv b265, .unset] [(.int (1 : Int32))]))) (fun t k => own_iconst (v := (1 : Int32)) X279.here hx rfl (hb hby at_185) (by decide) k) ?_
      refine own_go (B := (T279.setTop (mkF m 190 #[iv p0, iv p1, iv (3 : Int32), iv (1 : Int32), iv (3 : Int32), rv a203, rv a247, iv (1 : Int32), rv b265, .unset] [(.int (1 : Int32))]))) (fun t k => XS.goto X279.here hx rfl (pc0 := 186) (pc' := 190) rfl (hb hby at_186) (by decide) (by decide) k) ?_
      refine own_go (B := (T279.setTop (mkF m 192 #[iv p0, iv p1, iv (3 : Int32), iv (1 : Int32), iv (3 : Int32), rv a203, rv a247, iv (1 : Int32), rv b265, .unset] []))) (fun t k => XS.istore X279.here hx rfl (hb hby at_190) rfl (l' := #[iv p0, iv p1, iv (3 : Int32), iv (1 : Int32), iv (3 : Int32), rv a203, rv a247, iv (1 : Int32), rv b265, .unset]) rfl k) ?_
      refine own_go (B := (T279.setTop (mkF m 194 #[iv p0, iv p1, iv (3 : Int32), iv (1 : Int32), iv (3 : Int32), rv a203, rv a247, iv (1 : Int32), rv b265, .unset] [(.int (1 : Int32))]))) (fun t k => XS.iload X279.here hx rfl (hb hby at_192) rfl k) ?_
      have hc194 : ¬ (1 : Int32) = (0 : Int32) := (by decide)
      refine own_ifN X279 hx (hb hby at_194) (pn := 197) rfl hc194 ?_
      refine own_go (B := (T279.setTop (mkF m 199 #[iv p0, iv p1, iv (3 : Int32), iv (1 : Int32), iv (3 : Int32), rv a203, rv a247, iv (1 : Int32), rv b265, .unset] [(.ref b265)]))) (fun t k => XS.aload X279.here hx rfl (hb hby at_197) rfl rfl k) ?_
      obtain ⟨cq280, kq280, qa280, qb280, qc280⟩ := isOf hZ265 e279 Exi265
      obtain ⟨_, _, ⟨T280, L280, k280, n280⟩, -, X280, ⟨Lc280, hQ280, l280, yy280, zz280⟩, st280⟩ := X279.virtualBack hx (y := own_y17) (z := own_y17) ho265 (mvT hZ265 w_20) (mvT hZ265 w_21) (notFace_of_selects (args := #[]) (mvT hZ265 w_23)) (mvT hZ265 w_23) (mvT hZ265 w_22) (by decide) (backOf (W := 0) (own_ae l Z a0 hw [] b265 (2 : Int32) (5 : Int32) T265.heap n0 gpi265 gei265) hZ265 w_24 w_4 (by decide) (by decide)) qa280 qc280 (g := (mkF m 199 #[iv p0, iv p1, iv (3 : Int32), iv (1 : Int32), iv (3 : Int32), rv a203, rv a247, iv (1 : Int32), rv b265, .unset] [(.ref b265)])) rfl (by rw [hml]; rfl) (Steps.refl _) (argsL := []) (rest := []) (lenOf own_pd12 rfl) rfl (by show 2 * 0 + _ ≤ _; exact own_b rfl) (hb hby at_199) (fun _ _ => ⟨rfl, e279, (own_b rfl : 5 + 0 ≤ _), (own_b rfl : 50 + 0 ≤ _)⟩)
      dsimp only [Pt.U, Pt.locs, Pt.cells, Pt.slots] at X280 l280 yy280 zz280 st280 hQ280
      obtain ⟨rfl, Nq280, eq280⟩ := hQ280
      obtain ⟨L280, X280, N280⟩ := own_absC (K := 5) (K' := 50) X280 l280 yy280 zz280 N279 Nq280
      have e280 : T280.heap = T265.heap := eq280
      refine own_tr (B := (T280.setTop (mkF m 202 #[iv p0, iv p1, iv (3 : Int32), iv (1 : Int32), iv (3 : Int32), rv a203, rv a247, iv (1 : Int32), rv b265, .unset] [(.int (own_eqr (2 : Int32) (5 : Int32)))]))) st280 ?_
      rw [show own_eqr (2 : Int32) (5 : Int32) = (0 : Int32) from by decide]
      refine own_go (B := (T280.setTop (mkF m 203 #[iv p0, iv p1, iv (3 : Int32), iv (1 : Int32), iv (3 : Int32), rv a203, rv a247, iv (1 : Int32), rv b265, .unset] [(.int (3 : Int32)), (.int (0 : Int32))]))) (fun t k => XS.iloadN X280.here hx rfl (hb hby at_202) rfl k) ?_
      have hc203 : ¬ (3 : Int32) = (0 : Int32) := (by decide)
      refine own_ifY X280 hx (hb hby at_203) (pc' := 210) (by decide) (by decide) hc203 ?_
      refine own_go (B := (T280.setTop (mkF m 211 #[iv p0, iv p1, iv (3 : Int32), iv (1 : Int32), iv (3 : Int32), rv a203, rv a247, iv (1 : Int32), rv b265, .unset] [(.int (0 : Int32)), (.int (0 : Int32))]))) (fun t k => own_iconst (v := (0 : Int32)) X280.here hx rfl (hb hby at_210) (by decide) k) ?_
      have hc211 : (0 : Int32) = (0 : Int32) := (by decide)
      refine own_icmpN X280 hx (hb hby at_211) (pn := 214) rfl hc211 ?_
      refine own_go (B := (T280.setTop (mkF m 215 #[iv p0, iv p1, iv (3 : Int32), iv (1 : Int32), iv (3 : Int32), rv a203, rv a247, iv (1 : Int32), rv b265, .unset] [(.int (1 : Int32))]))) (fun t k => own_iconst (v := (1 : Int32)) X280.here hx rfl (hb hby at_214) (by decide) k) ?_
      refine own_go (B := (T280.setTop (mkF m 219 #[iv p0, iv p1, iv (3 : Int32), iv (1 : Int32), iv (3 : Int32), rv a203, rv a247, iv (1 : Int32), rv b265, .unset] [(.int (1 : Int32))]))) (fun t k => XS.goto X280.here hx rfl (pc0 := 215) (pc' := 219) rfl (hb hby at_215) (by decide) (by decide) k) ?_
      refine own_go (B := (T280.setTop (mkF m 221 #[iv p0, iv p1, iv (3 : Int32), iv (1 : Int32), iv (3 : Int32), rv a203, rv a247, iv (1 : Int32), rv b265, .unset] []))) (fun t k => XS.istore X280.here hx rfl (hb hby at_219) rfl (l' := #[iv p0, iv p1, iv (3 : Int32), iv (1 : Int32), iv (3 : Int32), rv a203, rv a247, iv (1 : Int32), rv b265, .unset]) rfl k) ?_
      refine own_go (B := (T280.setTop (mkF m 222 #[iv p0, iv p1, iv (3 : Int32), iv (1 : Int32), iv (3 : Int32), rv a203, rv a247, iv (1 : Int32), rv b265, .unset] [(.int (3 : Int32))]))) (fun t k => XS.iloadN X280.here hx rfl (hb hby at_221) rfl k) ?_
      refine own_go (B := (T280.setTop (mkF m 224 #[iv p0, iv p1, iv (3 : Int32), iv (1 : Int32), iv (3 : Int32), rv a203, rv a247, iv (1 : Int32), rv b265, .unset] [(.int (3 : Int32)), (.int (3 : Int32))]))) (fun t k => XS.iload X280.here hx rfl (hb hby at_222) rfl k) ?_
      refine own_go (B := (T280.setTop (mkF m 225 #[iv p0, iv p1, iv (3 : Int32), iv (1 : Int32), iv (3 : Int32), rv a203, rv a247, iv (1 : Int32), rv b265, .unset] [(.int ((3 : Int32) / (3 : Int32)))]))) (fun t k => XS.idiv (x := (3 : Int32)) (y := (3 : Int32)) X280.here hx rfl (hb hby at_224) rfl (by decide) k) ?_
      rw [show ((3 : Int32) / (3 : Int32)) = (1 : Int32) from by decide]
      refine own_go (B := (T280.setTop (mkF m 227 #[iv p0, iv p1, iv (3 : Int32), iv (1 : Int32), iv (3 : Int32), rv a203, rv a247, iv (1 : Int32), rv b265, iv (1 : Int32)] []))) (fun t k => XS.istore X280.here hx rfl (hb hby at_225) rfl (l' := #[iv p0, iv p1, iv (3 : Int32), iv (1 : Int32), iv (3 : Int32), rv a203, rv a247, iv (1 : Int32), rv b265, iv (1 : Int32)]) rfl k) ?_
      refine own_go (B := (T280.setTop (mkF m 229 #[iv p0, iv p1, iv (3 : Int32), iv (1 : Int32), iv (3 : Int32), rv a203, rv a247, iv (1 : Int32), rv b265, iv (1 : Int32)] [(.int (1 : Int32))]))) (fun t k => XS.iload X280.here hx rfl (hb hby at_227) rfl k) ?_
      refine own_go (B := (T280.setTop (mkF m 230 #[iv p0, iv p1, iv (3 : Int32), iv (1 : Int32), iv (3 : Int32), rv a203, rv a247, iv (1 : Int32), rv b265, iv (1 : Int32)] [(.int (1 : Int32)), (.int (1 : Int32))]))) (fun t k => own_iconst (v := (1 : Int32)) X280.here hx rfl (hb hby at_229) (by decide) k) ?_
      have hc230 : ¬ (1 : Int32) < (1 : Int32) := (by decide)
      refine own_icmpN X280 hx (hb hby at_230) (pn := 233) rfl hc230 ?_
      refine own_go (B := (T280.setTop (mkF m 235 #[iv p0, iv p1, iv (3 : Int32), iv (1 : Int32), iv (3 : Int32), rv a203, rv a247, iv (1 : Int32), rv b265, iv (1 : Int32)] [(.ref b265)]))) (fun t k => XS.aload X280.here hx rfl (hb hby at_233) rfl rfl k) ?_
      refine own_go (B := (T280.setTop (mkF m 236 #[iv p0, iv p1, iv (3 : Int32), iv (1 : Int32), iv (3 : Int32), rv a203, rv a247, iv (1 : Int32), rv b265, iv (1 : Int32)] [(.int (1 : Int32)), (.ref b265)]))) (fun t k => XS.iloadN X280.here hx rfl (hb hby at_235) rfl k) ?_
      obtain ⟨_, _, ⟨T281, L281, k281, n281⟩, -, X281, hs281, hg281, ⟨Lc281, hQ281, l281, yy281, zz281⟩, st281⟩ := callSS X280 hx (y := own_y19) ho265 (mvT hZ265 w_42) (mvT hZ265 w_43) (mvT hZ265 w_44) (mvT hZ265 w_45) (by decide) (backOfS (W := 0) (own_ro4 l Z a0 hw [] b265 a203 (5 : Int32) (3 : Int32) z71 z92 zz zm T265.heap n0 F266 Exi265 gn_b265 gbi265 gpi265 gei265 F268 hf7 hf71 hf92 (by decide) (by decide) (own_sta_keep hZS F267 (fun _ q => nomatch q)) (Exa.keep hZE F267) (Fld.keep hZF F267 nin0) (own_Ar_keep hZV F267 nin0) (fun q => absurd hZE.lt (by rw [← q]; exact Nat.not_lt.mpr (Nat.le_trans F258.1 gz265)))) hZ265 w_45 w_44 (by decide) (by decide)) (g := (mkF m 236 #[iv p0, iv p1, iv (3 : Int32), iv (1 : Int32), iv (3 : Int32), rv a203, rv a247, iv (1 : Int32), rv b265, iv (1 : Int32)] [(.int (1 : Int32)), (.ref b265)])) rfl (by rw [hml]; rfl) (argsL := [(.ref b265), (.int (1 : Int32))]) (rest := []) (lenOf own_pd14 rfl) rfl (by show 2 * 0 + _ ≤ _; exact own_b rfl) (hb hby at_236) (fun _ _ => ⟨rfl, e280, (own_b rfl : 5 + 5 ≤ _), (own_b rfl : 50 + 40 ≤ _)⟩)
      dsimp only [Pt.U, Pt.locs, Pt.cells, Pt.slots] at X281 l281 yy281 zz281 st281 hQ281 hs281 hg281
      obtain ⟨rfl, Nq281, K281, Ex281, gb281, gp281, ge281⟩ := hQ281
      obtain ⟨L281, X281, N281⟩ := own_absC (K := 10) (K' := 90) X281 l281 yy281 zz281 N280 Nq281
      have X281 : Stand p l e room_1 (s.setVm T281.vm) m #[(.int p0), (.int p1)] below meth c T281 L281 10 90 := X281
      have hS281 := foldS hS265 (T := T280) (by rw [e280]; exact hk265) hs281 hg281
      have hZ281 : Z.Warmed39 (s.setVm T281.vm).vm := State.Warmed39.trans (t := s.setVm T265.vm) hZ265 hs281.1
      have ho281 : (s.setVm T281.vm).vm.findClass "com/example/honeybee/honeybee/device/DerReaderAtEndPinLaw" = some m.cls := by rw [show (s.setVm T281.vm).vm = T281.vm from rfl, hs281.1.alike.findClass]; exact ho265
      have F282 : n0 ≤ T281.heap.size := Nat.le_trans F266 K281.1
      have F283 := Keep.trans F267 K281 (allS (Or.inr (Nat.le_trans F258.1 gz265)) all0)
      have F284 := own_Ar_keep F268 K281 (ninS (Ne.symm nb265_a203) nin0)
      have F285 := Exa.keep Exo265 K281
      have F286 := Fld.keep gbo265 K281 (ninS (Ne.symm nb265_a247) nin0)
      have F287 := Fld.keep gpo265 K281 (ninS (Ne.symm nb265_a247) nin0)
      have F288 := Fld.keep geo265 K281 (ninS (Ne.symm nb265_a247) nin0)
      have F289 := Exa.keep Exi265 K281
      have hk281 : T281.heap.size ≤ T281.heap.size := Nat.le_refl _
      refine own_tr (B := (T281.setTop (mkF m 239 #[iv p0, iv p1, iv (3 : Int32), iv (1 : Int32), iv (3 : Int32), rv a203, rv a247, iv (1 : Int32), rv b265, iv (1 : Int32)] []))) st281 ?_
      refine own_go (B := (T281.setTop (mkF m 241 #[iv p0, iv p1, iv (3 : Int32), iv (1 : Int32), iv (3 : Int32), rv a203, rv a247, iv (1 : Int32), rv b265, iv (1 : Int32)] [(.int (1 : Int32))]))) (fun t k => XS.iload X281.here hx rfl (hb hby at_239) rfl k) ?_
      have hc241 : ¬ (1 : Int32) = (0 : Int32) := (by decide)
      refine own_ifN X281 hx (hb hby at_241) (pn := 244) rfl hc241 ?_
      refine own_go (B := (T281.setTop (mkF m 246 #[iv p0, iv p1, iv (3 : Int32), iv (1 : Int32), iv (3 : Int32), rv a203, rv a247, iv (1 : Int32), rv b265, iv (1 : Int32)] [(.ref b265)]))) (fun t k => XS.aload X281.here hx rfl (hb hby at_244) rfl rfl k) ?_
      obtain ⟨cq293, kq293, qa293, qb293, qc293⟩ := isOf hZ281 rfl Ex281
      obtain ⟨_, _, ⟨T293, L293, k293, n293⟩, -, X293, ⟨Lc293, hQ293, l293, yy293, zz293⟩, st293⟩ := X281.virtualBack hx (y := own_y17) (z := own_y17) ho281 (mvT hZ281 w_20) (mvT hZ281 w_21) (notFace_of_selects (args := #[]) (mvT hZ281 w_23)) (mvT hZ281 w_23) (mvT hZ281 w_22) (by decide) (backOf (W := 0) (own_ae l Z a0 hw [] b265 (5 : Int32) (5 : Int32) T281.heap n0 gp281 ge281) hZ281 w_24 w_4 (by decide) (by decide)) qa293 qc293 (g := (mkF m 246 #[iv p0, iv p1, iv (3 : Int32), iv (1 : Int32), iv (3 : Int32), rv a203, rv a247, iv (1 : Int32), rv b265, iv (1 : Int32)] [(.ref b265)])) rfl (by rw [hml]; rfl) (Steps.refl _) (argsL := []) (rest := []) (lenOf own_pd12 rfl) rfl (by show 2 * 0 + _ ≤ _; exact own_b rfl) (hb hby at_246) (fun _ _ => ⟨rfl, rfl, (own_b rfl : 10 + 0 ≤ _), (own_b rfl : 90 + 0 ≤ _)⟩)
      dsimp only [Pt.U, Pt.locs, Pt.cells, Pt.slots] at X293 l293 yy293 zz293 st293 hQ293
      obtain ⟨rfl, Nq293, eq293⟩ := hQ293
      obtain ⟨L293, X293, N293⟩ := own_absC (K := 10) (K' := 90) X293 l293 yy293 zz293 N281 Nq293
      have e293 : T293.heap = T281.heap := eq293
      refine own_tr (B := (T293.setTop (mkF m 249 #[iv p0, iv p1, iv (3 : Int32), iv (1 : Int32), iv (3 : Int32), rv a203, rv a247, iv (1 : Int32), rv b265, iv (1 : Int32)] [(.int (own_eqr (5 : Int32) (5 : Int32)))]))) st293 ?_
      rw [show own_eqr (5 : Int32) (5 : Int32) = (1 : Int32) from by decide]
      refine own_go (B := (T293.setTop (mkF m 251 #[iv p0, iv p1, iv (3 : Int32), iv (1 : Int32), iv (3 : Int32), rv a203, rv a247, iv (1 : Int32), rv b265, iv (1 : Int32)] [(.int (3 : Int32)), (.int (1 : Int32))]))) (fun t k => XS.iload X293.here hx rfl (hb hby at_249) rfl k) ?_
      refine own_go (B := (T293.setTop (mkF m 252 #[iv p0, iv p1, iv (3 : Int32), iv (1 : Int32), iv (3 : Int32), rv a203, rv a247, iv (1 : Int32), rv b265, iv (1 : Int32)] [(.int (3 : Int32)), (.int (3 : Int32)), (.int (1 : Int32))]))) (fun t k => XS.iloadN X293.here hx rfl (hb hby at_251) rfl k) ?_
      have hc252 : (3 : Int32) = (3 : Int32) := (by decide)
      refine own_icmpN X293 hx (hb hby at_252) (pn := 255) rfl hc252 ?_
      refine own_go (B := (T293.setTop (mkF m 256 #[iv p0, iv p1, iv (3 : Int32), iv (1 : Int32), iv (3 : Int32), rv a203, rv a247, iv (1 : Int32), rv b265, iv (1 : Int32)] [(.int (1 : Int32)), (.int (1 : Int32))]))) (fun t k => own_iconst (v := (1 : Int32)) X293.here hx rfl (hb hby at_255) (by decide) k) ?_
      refine own_go (B := (T293.setTop (mkF m 260 #[iv p0, iv p1, iv (3 : Int32), iv (1 : Int32), iv (3 : Int32), rv a203, rv a247, iv (1 : Int32), rv b265, iv (1 : Int32)] [(.int (1 : Int32)), (.int (1 : Int32))]))) (fun t k => XS.goto X293.here hx rfl (pc0 := 256) (pc' := 260) rfl (hb hby at_256) (by decide) (by decide) k) ?_
      have hc260 : (1 : Int32) = (1 : Int32) := (by decide)
      refine own_icmpN X293 hx (hb hby at_260) (pn := 263) rfl hc260 ?_
      refine own_go (B := (T293.setTop (mkF m 264 #[iv p0, iv p1, iv (3 : Int32), iv (1 : Int32), iv (3 : Int32), rv a203, rv a247, iv (1 : Int32), rv b265, iv (1 : Int32)] [(.int (1 : Int32))]))) (fun t k => own_iconst (v := (1 : Int32)) X293.here hx rfl (hb hby at_263) (by decide) k) ?_
      refine own_go (B := (T293.setTop (mkF m 268 #[iv p0, iv p1, iv (3 : Int32), iv (1 : Int32), iv (3 : Int32), rv a203, rv a247, iv (1 : Int32), rv b265, iv (1 : Int32)] [(.int (1 : Int32))]))) (fun t k => XS.goto X293.here hx rfl (pc0 := 264) (pc' := 268) rfl (hb hby at_264) (by decide) (by decide) k) ?_
      refine own_go (B := (T293.setTop (mkF m 270 #[iv p0, iv p1, iv (3 : Int32), iv (1 : Int32), iv (3 : Int32), rv a203, rv a247, iv (1 : Int32), rv b265, iv (1 : Int32)] []))) (fun t k => XS.istore X293.here hx rfl (hb hby at_268) rfl (l' := #[iv p0, iv p1, iv (3 : Int32), iv (1 : Int32), iv (3 : Int32), rv a203, rv a247, iv (1 : Int32), rv b265, iv (1 : Int32)]) rfl k) ?_
      refine own_go (B := (T293.setTop (mkF m 272 #[iv p0, iv p1, iv (3 : Int32), iv (1 : Int32), iv (3 : Int32), rv a203, rv a247, iv (1 : Int32), rv b265, iv (1 : Int32)] [(.int (1 : Int32))]))) (fun t k => XS.iload X293.here hx rfl (hb hby at_270) rfl k) ?_
      refine own_go (B := (T293.setTop (mkF m 273 #[iv p0, iv p1, iv (3 : Int32), iv (1 : Int32), iv (3 : Int32), rv a203, rv a247, iv (1 : Int32), rv b265, iv (1 : Int32)] [(.int (2 : Int32)), (.int (1 : Int32))]))) (fun t k => own_iconst (v := (2 : Int32)) X293.here hx rfl (hb hby at_272) (by decide) k) ?_
      have hc273 : (1 : Int32) < (2 : Int32) := (by decide)
      refine own_icmpY X293 hx (hb hby at_273) (pc' := 315) (by decide) (by decide) hc273 ?_
      refine own_go (B := (T293.setTop (mkF m 317 #[iv p0, iv p1, iv (3 : Int32), iv (1 : Int32), iv (3 : Int32), rv a203, rv a247, iv (1 : Int32), rv b265, iv (1 : Int32)] [(.int (1 : Int32))]))) (fun t k => XS.iload X293.here hx rfl (hb hby at_315) rfl k) ?_
      refine own_go (B := (T293.setTop (mkF m 318 #[iv p0, iv p1, iv (3 : Int32), iv (1 : Int32), iv (3 : Int32), rv a203, rv a247, iv (1 : Int32), rv b265, iv (1 : Int32)] [(.int (3 : Int32)), (.int (1 : Int32))]))) (fun t k => own_iconst (v := (3 : Int32)) X293.here hx rfl (hb hby at_317) (by decide) k) ?_
      have hc318 : (1 : Int32) < (3 : Int32) := (by decide)
      refine own_icmpY X293 hx (hb hby at_318) (pc' := 360) (by decide) (by decide) hc318 ?_
      refine own_go (B := (T293.setTop (mkF m 362 #[iv p0, iv p1, iv (3 : Int32), iv (1 : Int32), iv (3 : Int32), rv a203, rv a247, iv (1 : Int32), rv b265, iv (1 : Int32)] [(.int (1 : Int32))]))) (fun t k => XS.iload X293.here hx rfl (hb hby at_360) rfl k) ?_
      exact own_retWZ X293 hx hlk hS281 (by rw [e293]; exact hk281) Bd.returns (hb hby at_362) (by decide) (own_b rfl) (own_b rfl) (Q := (own_law_Q Z p0 p1 zz zm h0 n0)) ⟨rfl, N293⟩
    · obtain rfl : pe = (6 : Int32) := hpe.trans (by decide)
      refine own_go (B := (T265.setTop (mkF m 161 #[iv p0, iv p1, iv (4 : Int32), iv (1 : Int32), iv (3 : Int32), rv a203, rv a247, iv (1 : Int32), rv b265, .unset] []))) (fun t k => XS.astore X265.here hx rfl (hb hby at_159) rfl rfl (l' := #[iv p0, iv p1, iv (4 : Int32), iv (1 : Int32), iv (3 : Int32), rv a203, rv a247, iv (1 : Int32), rv b265, .unset]) rfl k) ?_
      refine own_go (B := (T265.setTop (mkF m 163 #[iv p0, iv p1, iv (4 : Int32), iv (1 : Int32), iv (3 : Int32), rv a203, rv a247, iv (1 : Int32), rv b265, .unset] [(.int (1 : Int32))]))) (fun t k => XS.iload X265.here hx rfl (hb hby at_161) rfl k) ?_
      have hc163 : ¬ (1 : Int32) = (0 : Int32) := (by decide)
      refine own_ifN X265 hx (hb hby at_163) (pn := 166) rfl hc163 ?_
      refine own_go (B := (T265.setTop (mkF m 168 #[iv p0, iv p1, iv (4 : Int32), iv (1 : Int32), iv (3 : Int32), rv a203, rv a247, iv (1 : Int32), rv b265, .unset] [(.ref a247)]))) (fun t k => XS.aload X265.here hx rfl (hb hby at_166) rfl rfl k) ?_
      obtain ⟨cq294, kq294, qa294, qb294, qc294⟩ := isOf hZ265 rfl Exo265
      obtain ⟨_, _, ⟨T294, L294, k294, n294⟩, -, X294, ⟨Lc294, hQ294, l294, yy294, zz294⟩, st294⟩ := X265.virtualBack hx (y := own_y17) (z := own_y17) ho265 (mvT hZ265 w_20) (mvT hZ265 w_21) (notFace_of_selects (args := #[]) (mvT hZ265 w_23)) (mvT hZ265 w_23) (mvT hZ265 w_22) (by decide) (backOf (W := 0) (own_ae l Z a0 hw [] a247 (6 : Int32) (8 : Int32) T265.heap n0 gpo265 geo265) hZ265 w_24 w_4 (by decide) (by decide)) qa294 qc294 (g := (mkF m 168 #[iv p0, iv p1, iv (4 : Int32), iv (1 : Int32), iv (3 : Int32), rv a203, rv a247, iv (1 : Int32), rv b265, .unset] [(.ref a247)])) rfl (by rw [hml]; rfl) (Steps.refl _) (argsL := []) (rest := []) (lenOf own_pd12 rfl) rfl (by show 2 * 0 + _ ≤ _; exact own_b rfl) (hb hby at_168) (fun _ _ => ⟨rfl, rfl, (own_b rfl : 5 + 0 ≤ _), (own_b rfl : 50 + 0 ≤ _)⟩)
      dsimp only [Pt.U, Pt.locs, Pt.cells, Pt.slots] at X294 l294 yy294 zz294 st294 hQ294
      obtain ⟨rfl, Nq294, eq294⟩ := hQ294
      obtain ⟨L294, X294, N294⟩ := own_absC (K := 5) (K' := 50) X294 l294 yy294 zz294 N265 Nq294
      have e294 : T294.heap = T265.heap := eq294
      refine own_tr (B := (T294.setTop (mkF m 171 #[iv p0, iv p1, iv (4 : Int32), iv (1 : Int32), iv (3 : Int32), rv a203, rv a247, iv (1 : Int32), rv b265, .unset] [(.int (own_eqr (6 : Int32) (8 : Int32)))]))) st294 ?_
      rw [show own_eqr (6 : Int32) (8 : Int32) = (0 : Int32) from by decide]
      refine own_go (B := (T294.setTop (mkF m 172 #[iv p0, iv p1, iv (4 : Int32), iv (1 : Int32), iv (3 : Int32), rv a203, rv a247, iv (1 : Int32), rv b265, .unset] [(.int (4 : Int32)), (.int (0 : Int32))]))) (fun t k => XS.iloadN X294.here hx rfl (hb hby at_171) rfl k) ?_
      refine own_go (B := (T294.setTop (mkF m 174 #[iv p0, iv p1, iv (4 : Int32), iv (1 : Int32), iv (3 : Int32), rv a203, rv a247, iv (1 : Int32), rv b265, .unset] [(.int (6 : Int32)), (.int (4 : Int32)), (.int (0 : Int32))]))) (fun t k => own_bipush (v := (6 : Int32)) X294.here hx rfl (hb hby at_172) (by decide) k) ?_
      have hc174 : ¬ (4 : Int32) = (6 : Int32) := (by decide)
      refine own_icmpY X294 hx (hb hby at_174) (pc' := 181) (by decide) (by decide) hc174 ?_
      refine own_go (B := (T294.setTop (mkF m 182 #[iv p0, iv p1, iv (4 : Int32), iv (1 : Int32), iv (3 : Int32), rv a203, rv a247, iv (1 : Int32), rv b265, .unset] [(.int (0 : Int32)), (.int (0 : Int32))]))) (fun t k => own_iconst (v := (0 : Int32)) X294.here hx rfl (hb hby at_181) (by decide) k) ?_
      have hc182 : (0 : Int32) = (0 : Int32) := (by decide)
      refine own_icmpN X294 hx (hb hby at_182) (pn := 185) rfl hc182 ?_
      refine own_go (B := (T294.setTop (mkF m 186 #[iv p0, iv p1, iv (4 : Int32), iv (1 : Int32), iv (3 : Int32), rv a203, rv a247, iv (1 : Int32), rv b265, .unset] [(.int (1 : Int32))]))) (fun t k => own_iconst (v := (1 : Int32)) X294.here hx rfl (hb hby at_185) (by decide) k) ?_
      refine own_go (B := (T294.setTop (mkF m 190 #[iv p0, iv p1, iv (4 : Int32), iv (1 : Int32), iv (3 : Int32), rv a203, rv a247, iv (1 : Int32), rv b265, .unset] [(.int (1 : Int32))]))) (fun t k => XS.goto X294.here hx rfl (pc0 := 186) (pc' := 190) rfl (hb hby at_186) (by decide) (by decide) k) ?_
      refine own_go (B := (T294.setTop (mkF m 192 #[iv p0, iv p1, iv (4 : Int32), iv (1 : Int32), iv (3 : Int32), rv a203, rv a247, iv (1 : Int32), rv b265, .unset] []))) (fun t k => XS.istore X294.here hx rfl (hb hby at_190) rfl (l' := #[iv p0, iv p1, iv (4 : Int32), iv (1 : Int32), iv (3 : Int32), rv a203, rv a247, iv (1 : Int32), rv b265, .unset]) rfl k) ?_
      refine own_go (B := (T294.setTop (mkF m 194 #[iv p0, iv p1, iv (4 : Int32), iv (1 : Int32), iv (3 : Int32), rv a203, rv a247, iv (1 : Int32), rv b265, .unset] [(.int (1 : Int32))]))) (fun t k => XS.iload X294.here hx rfl (hb hby at_192) rfl k) ?_
      have hc194 : ¬ (1 : Int32) = (0 : Int32) := (by decide)
      refine own_ifN X294 hx (hb hby at_194) (pn := 197) rfl hc194 ?_
      refine own_go (B := (T294.setTop (mkF m 199 #[iv p0, iv p1, iv (4 : Int32), iv (1 : Int32), iv (3 : Int32), rv a203, rv a247, iv (1 : Int32), rv b265, .unset] [(.ref b265)]))) (fun t k => XS.aload X294.here hx rfl (hb hby at_197) rfl rfl k) ?_
      obtain ⟨cq295, kq295, qa295, qb295, qc295⟩ := isOf hZ265 e294 Exi265
      obtain ⟨_, _, ⟨T295, L295, k295, n295⟩, -, X295, ⟨Lc295, hQ295, l295, yy295, zz295⟩, st295⟩ := X294.virtualBack hx (y := own_y17) (z := own_y17) ho265 (mvT hZ265 w_20) (mvT hZ265 w_21) (notFace_of_selects (args := #[]) (mvT hZ265 w_23)) (mvT hZ265 w_23) (mvT hZ265 w_22) (by decide) (backOf (W := 0) (own_ae l Z a0 hw [] b265 (2 : Int32) (6 : Int32) T265.heap n0 gpi265 gei265) hZ265 w_24 w_4 (by decide) (by decide)) qa295 qc295 (g := (mkF m 199 #[iv p0, iv p1, iv (4 : Int32), iv (1 : Int32), iv (3 : Int32), rv a203, rv a247, iv (1 : Int32), rv b265, .unset] [(.ref b265)])) rfl (by rw [hml]; rfl) (Steps.refl _) (argsL := []) (rest := []) (lenOf own_pd12 rfl) rfl (by show 2 * 0 + _ ≤ _; exact own_b rfl) (hb hby at_199) (fun _ _ => ⟨rfl, e294, (own_b rfl : 5 + 0 ≤ _), (own_b rfl : 50 + 0 ≤ _)⟩)
      dsimp only [Pt.U, Pt.locs, Pt.cells, Pt.slots] at X295 l295 yy295 zz295 st295 hQ295
      obtain ⟨rfl, Nq295, eq295⟩ := hQ295
      obtain ⟨L295, X295, N295⟩ := own_absC (K := 5) (K' := 50) X295 l295 yy295 zz295 N294 Nq295
      have e295 : T295.heap = T265.heap := eq295
      refine own_tr (B := (T295.setTop (mkF m 202 #[iv p0, iv p1, iv (4 : Int32), iv (1 : Int32), iv (3 : Int32), rv a203, rv a247, iv (1 : Int32), rv b265, .unset] [(.int (own_eqr (2 : Int32) (6 : Int32)))]))) st295 ?_
      rw [show own_eqr (2 : Int32) (6 : Int32) = (0 : Int32) from by decide]
      refine own_go (B := (T295.setTop (mkF m 203 #[iv p0, iv p1, iv (4 : Int32), iv (1 : Int32), iv (3 : Int32), rv a203, rv a247, iv (1 : Int32), rv b265, .unset] [(.int (4 : Int32)), (.int (0 : Int32))]))) (fun t k => XS.iloadN X295.here hx rfl (hb hby at_202) rfl k) ?_
      have hc203 : ¬ (4 : Int32) = (0 : Int32) := (by decide)
      refine own_ifY X295 hx (hb hby at_203) (pc' := 210) (by decide) (by decide) hc203 ?_
      refine own_go (B := (T295.setTop (mkF m 211 #[iv p0, iv p1, iv (4 : Int32), iv (1 : Int32), iv (3 : Int32), rv a203, rv a247, iv (1 : Int32), rv b265, .unset] [(.int (0 : Int32)), (.int (0 : Int32))]))) (fun t k => own_iconst (v := (0 : Int32)) X295.here hx rfl (hb hby at_210) (by decide) k) ?_
      have hc211 : (0 : Int32) = (0 : Int32) := (by decide)
      refine own_icmpN X295 hx (hb hby at_211) (pn := 214) rfl hc211 ?_
      refine own_go (B := (T295.setTop (mkF m 215 #[iv p0, iv p1, iv (4 : Int32), iv (1 : Int32), iv (3 : Int32), rv a203, rv a247, iv (1 : Int32), rv b265, .unset] [(.int (1 : Int32))]))) (fun t k => own_iconst (v := (1 : Int32)) X295.here hx rfl (hb hby at_214) (by decide) k) ?_
      refine own_go (B := (T295.setTop (mkF m 219 #[iv p0, iv p1, iv (4 : Int32), iv (1 : Int32), iv (3 : Int32), rv a203, rv a247, iv (1 : Int32), rv b265, .unset] [(.int (1 : Int32))]))) (fun t k => XS.goto X295.here hx rfl (pc0 := 215) (pc' := 219) rfl (hb hby at_215) (by decide) (by decide) k) ?_
      refine own_go (B := (T295.setTop (mkF m 221 #[iv p0, iv p1, iv (4 : Int32), iv (1 : Int32), iv (3 : Int32), rv a203, rv a247, iv (1 : Int32), rv b265, .unset] []))) (fun t k => XS.istore X295.here hx rfl (hb hby at_219) rfl (l' := #[iv p0, iv p1, iv (4 : Int32), iv (1 : Int32), iv (3 : Int32), rv a203, rv a247, iv (1 : Int32), rv b265, .unset]) rfl k) ?_
      refine own_go (B := (T295.setTop (mkF m 222 #[iv p0, iv p1, iv (4 : Int32), iv (1 : Int32), iv (3 : Int32), rv a203, rv a247, iv (1 : Int32), rv b265, .unset] [(.int (4 : Int32))]))) (fun t k => XS.iloadN X295.here hx rfl (hb hby at_221) rfl k) ?_
      refine own_go (B := (T295.setTop (mkF m 224 #[iv p0, iv p1, iv (4 : Int32), iv (1 : Int32), iv (3 : Int32), rv a203, rv a247, iv (1 : Int32), rv b265, .unset] [(.int (3 : Int32)), (.int (4 : Int32))]))) (fun t k => XS.iload X295.here hx rfl (hb hby at_222) rfl k) ?_
      refine own_go (B := (T295.setTop (mkF m 225 #[iv p0, iv p1, iv (4 : Int32), iv (1 : Int32), iv (3 : Int32), rv a203, rv a247, iv (1 : Int32), rv b265, .unset] [(.int ((4 : Int32) / (3 : Int32)))]))) (fun t k => XS.idiv (x := (4 : Int32)) (y := (3 : Int32)) X295.here hx rfl (hb hby at_224) rfl (by decide) k) ?_
      rw [show ((4 : Int32) / (3 : Int32)) = (1 : Int32) from by decide]
      refine own_go (B := (T295.setTop (mkF m 227 #[iv p0, iv p1, iv (4 : Int32), iv (1 : Int32), iv (3 : Int32), rv a203, rv a247, iv (1 : Int32), rv b265, iv (1 : Int32)] []))) (fun t k => XS.istore X295.here hx rfl (hb hby at_225) rfl (l' := #[iv p0, iv p1, iv (4 : Int32), iv (1 : Int32), iv (3 : Int32), rv a203, rv a247, iv (1 : Int32), rv b265, iv (1 : Int32)]) rfl k) ?_
      refine own_go (B := (T295.setTop (mkF m 229 #[iv p0, iv p1, iv (4 : Int32), iv (1 : Int32), iv (3 : Int32), rv a203, rv a247, iv (1 : Int32), rv b265, iv (1 : Int32)] [(.int (1 : Int32))]))) (fun t k => XS.iload X295.here hx rfl (hb hby at_227) rfl k) ?_
      refine own_go (B := (T295.setTop (mkF m 230 #[iv p0, iv p1, iv (4 : Int32), iv (1 : Int32), iv (3 : Int32), rv a203, rv a247, iv (1 : Int32), rv b265, iv (1 : Int32)] [(.int (1 : Int32)), (.int (1 : Int32))]))) (fun t k => own_iconst (v := (1 : Int32)) X295.here hx rfl (hb hby at_229) (by decide) k) ?_
      have hc230 : ¬ (1 : Int32) < (1 : Int32) := (by decide)
      refine own_icmpN X295 hx (hb hby at_230) (pn := 233) rfl hc230 ?_
      refine own_go (B := (T295.setTop (mkF m 235 #[iv p0, iv p1, iv (4 : Int32), iv (1 : Int32), iv (3 : Int32), rv a203, rv a247, iv (1 : Int32), rv b265, iv (1 : Int32)] [(.ref b265)]))) (fun t k => XS.aload X295.here hx rfl (hb hby at_233) rfl rfl k) ?_
      refine own_go (B := (T295.setTop (mkF m 236 #[iv p0, iv p1, iv (4 : Int32), iv (1 : Int32), iv (3 : Int32), rv a203, rv a247, iv (1 : Int32), rv b265, iv (1 : Int32)] [(.int (1 : Int32)), (.ref b265)]))) (fun t k => XS.iloadN X295.here hx rfl (hb hby at_235) rfl k) ?_
      obtain ⟨_, _, ⟨T296, L296, k296, n296⟩, -, X296, hs296, hg296, ⟨Lc296, hQ296, l296, yy296, zz296⟩, st296⟩ := callSS X295 hx (y := own_y19) ho265 (mvT hZ265 w_42) (mvT hZ265 w_43) (mvT hZ265 w_44) (mvT hZ265 w_45) (by decide) (backOfS (W := 0) (own_ro4 l Z a0 hw [] b265 a203 (6 : Int32) (4 : Int32) z71 z92 zz zm T265.heap n0 F266 Exi265 gn_b265 gbi265 gpi265 gei265 F268 hf7 hf71 hf92 (by decide) (by decide) (own_sta_keep hZS F267 (fun _ q => nomatch q)) (Exa.keep hZE F267) (Fld.keep hZF F267 nin0) (own_Ar_keep hZV F267 nin0) (fun q => absurd hZE.lt (by rw [← q]; exact Nat.not_lt.mpr (Nat.le_trans F258.1 gz265)))) hZ265 w_45 w_44 (by decide) (by decide)) (g := (mkF m 236 #[iv p0, iv p1, iv (4 : Int32), iv (1 : Int32), iv (3 : Int32), rv a203, rv a247, iv (1 : Int32), rv b265, iv (1 : Int32)] [(.int (1 : Int32)), (.ref b265)])) rfl (by rw [hml]; rfl) (argsL := [(.ref b265), (.int (1 : Int32))]) (rest := []) (lenOf own_pd14 rfl) rfl (by show 2 * 0 + _ ≤ _; exact own_b rfl) (hb hby at_236) (fun _ _ => ⟨rfl, e295, (own_b rfl : 5 + 5 ≤ _), (own_b rfl : 50 + 40 ≤ _)⟩)
      dsimp only [Pt.U, Pt.locs, Pt.cells, Pt.slots] at X296 l296 yy296 zz296 st296 hQ296 hs296 hg296
      obtain ⟨rfl, Nq296, K296, Ex296, gb296, gp296, ge296⟩ := hQ296
      obtain ⟨L296, X296, N296⟩ := own_absC (K := 10) (K' := 90) X296 l296 yy296 zz296 N295 Nq296
      have X296 : Stand p l e room_1 (s.setVm T296.vm) m #[(.int p0), (.int p1)] below meth c T296 L296 10 90 := X296
      have hS296 := foldS hS265 (T := T295) (by rw [e295]; exact hk265) hs296 hg296
      have hZ296 : Z.Warmed39 (s.setVm T296.vm).vm := State.Warmed39.trans (t := s.setVm T265.vm) hZ265 hs296.1
      have ho296 : (s.setVm T296.vm).vm.findClass "com/example/honeybee/honeybee/device/DerReaderAtEndPinLaw" = some m.cls := by rw [show (s.setVm T296.vm).vm = T296.vm from rfl, hs296.1.alike.findClass]; exact ho265
      have F297 : n0 ≤ T296.heap.size := Nat.le_trans F266 K296.1
      have F298 := Keep.trans F267 K296 (allS (Or.inr (Nat.le_trans F258.1 gz265)) all0)
      have F299 := own_Ar_keep F268 K296 (ninS (Ne.symm nb265_a203) nin0)
      have F300 := Exa.keep Exo265 K296
      have F301 := Fld.keep gbo265 K296 (ninS (Ne.symm nb265_a247) nin0)
      have F302 := Fld.keep gpo265 K296 (ninS (Ne.symm nb265_a247) nin0)
      have F303 := Fld.keep geo265 K296 (ninS (Ne.symm nb265_a247) nin0)
      have F304 := Exa.keep Exi265 K296
      have hk296 : T296.heap.size ≤ T296.heap.size := Nat.le_refl _
      refine own_tr (B := (T296.setTop (mkF m 239 #[iv p0, iv p1, iv (4 : Int32), iv (1 : Int32), iv (3 : Int32), rv a203, rv a247, iv (1 : Int32), rv b265, iv (1 : Int32)] []))) st296 ?_
      refine own_go (B := (T296.setTop (mkF m 241 #[iv p0, iv p1, iv (4 : Int32), iv (1 : Int32), iv (3 : Int32), rv a203, rv a247, iv (1 : Int32), rv b265, iv (1 : Int32)] [(.int (1 : Int32))]))) (fun t k => XS.iload X296.here hx rfl (hb hby at_239) rfl k) ?_
      have hc241 : ¬ (1 : Int32) = (0 : Int32) := (by decide)
      refine own_ifN X296 hx (hb hby at_241) (pn := 244) rfl hc241 ?_
      refine own_go (B := (T296.setTop (mkF m 246 #[iv p0, iv p1, iv (4 : Int32), iv (1 : Int32), iv (3 : Int32), rv a203, rv a247, iv (1 : Int32), rv b265, iv (1 : Int32)] [(.ref b265)]))) (fun t k => XS.aload X296.here hx rfl (hb hby at_244) rfl rfl k) ?_
      obtain ⟨cq308, kq308, qa308, qb308, qc308⟩ := isOf hZ296 rfl Ex296
      obtain ⟨_, _, ⟨T308, L308, k308, n308⟩, -, X308, ⟨Lc308, hQ308, l308, yy308, zz308⟩, st308⟩ := X296.virtualBack hx (y := own_y17) (z := own_y17) ho296 (mvT hZ296 w_20) (mvT hZ296 w_21) (notFace_of_selects (args := #[]) (mvT hZ296 w_23)) (mvT hZ296 w_23) (mvT hZ296 w_22) (by decide) (backOf (W := 0) (own_ae l Z a0 hw [] b265 (5 : Int32) (6 : Int32) T296.heap n0 gp296 ge296) hZ296 w_24 w_4 (by decide) (by decide)) qa308 qc308 (g := (mkF m 246 #[iv p0, iv p1, iv (4 : Int32), iv (1 : Int32), iv (3 : Int32), rv a203, rv a247, iv (1 : Int32), rv b265, iv (1 : Int32)] [(.ref b265)])) rfl (by rw [hml]; rfl) (Steps.refl _) (argsL := []) (rest := []) (lenOf own_pd12 rfl) rfl (by show 2 * 0 + _ ≤ _; exact own_b rfl) (hb hby at_246) (fun _ _ => ⟨rfl, rfl, (own_b rfl : 10 + 0 ≤ _), (own_b rfl : 90 + 0 ≤ _)⟩)
      dsimp only [Pt.U, Pt.locs, Pt.cells, Pt.slots] at X308 l308 yy308 zz308 st308 hQ308
      obtain ⟨rfl, Nq308, eq308⟩ := hQ308
      obtain ⟨L308, X308, N308⟩ := own_absC (K := 10) (K' := 90) X308 l308 yy308 zz308 N296 Nq308
      have e308 : T308.heap = T296.heap := eq308
      refine own_tr (B := (T308.setTop (mkF m 249 #[iv p0, iv p1, iv (4 : Int32), iv (1 : Int32), iv (3 : Int32), rv a203, rv a247, iv (1 : Int32), rv b265, iv (1 : Int32)] [(.int (own_eqr (5 : Int32) (6 : Int32)))]))) st308 ?_
      rw [show own_eqr (5 : Int32) (6 : Int32) = (0 : Int32) from by decide]
      refine own_go (B := (T308.setTop (mkF m 251 #[iv p0, iv p1, iv (4 : Int32), iv (1 : Int32), iv (3 : Int32), rv a203, rv a247, iv (1 : Int32), rv b265, iv (1 : Int32)] [(.int (3 : Int32)), (.int (0 : Int32))]))) (fun t k => XS.iload X308.here hx rfl (hb hby at_249) rfl k) ?_
      refine own_go (B := (T308.setTop (mkF m 252 #[iv p0, iv p1, iv (4 : Int32), iv (1 : Int32), iv (3 : Int32), rv a203, rv a247, iv (1 : Int32), rv b265, iv (1 : Int32)] [(.int (4 : Int32)), (.int (3 : Int32)), (.int (0 : Int32))]))) (fun t k => XS.iloadN X308.here hx rfl (hb hby at_251) rfl k) ?_
      have hc252 : ¬ (3 : Int32) = (4 : Int32) := (by decide)
      refine own_icmpY X308 hx (hb hby at_252) (pc' := 259) (by decide) (by decide) hc252 ?_
      refine own_go (B := (T308.setTop (mkF m 260 #[iv p0, iv p1, iv (4 : Int32), iv (1 : Int32), iv (3 : Int32), rv a203, rv a247, iv (1 : Int32), rv b265, iv (1 : Int32)] [(.int (0 : Int32)), (.int (0 : Int32))]))) (fun t k => own_iconst (v := (0 : Int32)) X308.here hx rfl (hb hby at_259) (by decide) k) ?_
      have hc260 : (0 : Int32) = (0 : Int32) := (by decide)
      refine own_icmpN X308 hx (hb hby at_260) (pn := 263) rfl hc260 ?_
      refine own_go (B := (T308.setTop (mkF m 264 #[iv p0, iv p1, iv (4 : Int32), iv (1 : Int32), iv (3 : Int32), rv a203, rv a247, iv (1 : Int32), rv b265, iv (1 : Int32)] [(.int (1 : Int32))]))) (fun t k => own_iconst (v := (1 : Int32)) X308.here hx rfl (hb hby at_263) (by decide) k) ?_
      refine own_go (B := (T308.setTop (mkF m 268 #[iv p0, iv p1, iv (4 : Int32), iv (1 : Int32), iv (3 : Int32), rv a203, rv a247, iv (1 : Int32), rv b265, iv (1 : Int32)] [(.int (1 : Int32))]))) (fun t k => XS.goto X308.here hx rfl (pc0 := 264) (pc' := 268) rfl (hb hby at_264) (by decide) (by decide) k) ?_
      refine own_go (B := (T308.setTop (mkF m 270 #[iv p0, iv p1, iv (4 : Int32), iv (1 : Int32), iv (3 : Int32), rv a203, rv a247, iv (1 : Int32), rv b265, iv (1 : Int32)] []))) (fun t k => XS.istore X308.here hx rfl (hb hby at_268) rfl (l' := #[iv p0, iv p1, iv (4 : Int32), iv (1 : Int32), iv (3 : Int32), rv a203, rv a247, iv (1 : Int32), rv b265, iv (1 : Int32)]) rfl k) ?_
      refine own_go (B := (T308.setTop (mkF m 272 #[iv p0, iv p1, iv (4 : Int32), iv (1 : Int32), iv (3 : Int32), rv a203, rv a247, iv (1 : Int32), rv b265, iv (1 : Int32)] [(.int (1 : Int32))]))) (fun t k => XS.iload X308.here hx rfl (hb hby at_270) rfl k) ?_
      refine own_go (B := (T308.setTop (mkF m 273 #[iv p0, iv p1, iv (4 : Int32), iv (1 : Int32), iv (3 : Int32), rv a203, rv a247, iv (1 : Int32), rv b265, iv (1 : Int32)] [(.int (2 : Int32)), (.int (1 : Int32))]))) (fun t k => own_iconst (v := (2 : Int32)) X308.here hx rfl (hb hby at_272) (by decide) k) ?_
      have hc273 : (1 : Int32) < (2 : Int32) := (by decide)
      refine own_icmpY X308 hx (hb hby at_273) (pc' := 315) (by decide) (by decide) hc273 ?_
      refine own_go (B := (T308.setTop (mkF m 317 #[iv p0, iv p1, iv (4 : Int32), iv (1 : Int32), iv (3 : Int32), rv a203, rv a247, iv (1 : Int32), rv b265, iv (1 : Int32)] [(.int (1 : Int32))]))) (fun t k => XS.iload X308.here hx rfl (hb hby at_315) rfl k) ?_
      refine own_go (B := (T308.setTop (mkF m 318 #[iv p0, iv p1, iv (4 : Int32), iv (1 : Int32), iv (3 : Int32), rv a203, rv a247, iv (1 : Int32), rv b265, iv (1 : Int32)] [(.int (3 : Int32)), (.int (1 : Int32))]))) (fun t k => own_iconst (v := (3 : Int32)) X308.here hx rfl (hb hby at_317) (by decide) k) ?_
      have hc318 : (1 : Int32) < (3 : Int32) := (by decide)
      refine own_icmpY X308 hx (hb hby at_318) (pc' := 360) (by decide) (by decide) hc318 ?_
      refine own_go (B := (T308.setTop (mkF m 362 #[iv p0, iv p1, iv (4 : Int32), iv (1 : Int32), iv (3 : Int32), rv a203, rv a247, iv (1 : Int32), rv b265, iv (1 : Int32)] [(.int (1 : Int32))]))) (fun t k => XS.iload X308.here hx rfl (hb hby at_360) rfl k) ?_
      exact own_retWZ X308 hx hlk hS296 (by rw [e308]; exact hk296) Bd.returns (hb hby at_362) (by decide) (own_b rfl) (own_b rfl) (Q := (own_law_Q Z p0 p1 zz zm h0 n0)) ⟨rfl, N308⟩
    · obtain rfl : pe = (7 : Int32) := hpe.trans (by decide)
      refine own_go (B := (T265.setTop (mkF m 161 #[iv p0, iv p1, iv (5 : Int32), iv (1 : Int32), iv (3 : Int32), rv a203, rv a247, iv (1 : Int32), rv b265, .unset] []))) (fun t k => XS.astore X265.here hx rfl (hb hby at_159) rfl rfl (l' := #[iv p0, iv p1, iv (5 : Int32), iv (1 : Int32), iv (3 : Int32), rv a203, rv a247, iv (1 : Int32), rv b265, .unset]) rfl k) ?_
      refine own_go (B := (T265.setTop (mkF m 163 #[iv p0, iv p1, iv (5 : Int32), iv (1 : Int32), iv (3 : Int32), rv a203, rv a247, iv (1 : Int32), rv b265, .unset] [(.int (1 : Int32))]))) (fun t k => XS.iload X265.here hx rfl (hb hby at_161) rfl k) ?_
      have hc163 : ¬ (1 : Int32) = (0 : Int32) := (by decide)
      refine own_ifN X265 hx (hb hby at_163) (pn := 166) rfl hc163 ?_
      refine own_go (B := (T265.setTop (mkF m 168 #[iv p0, iv p1, iv (5 : Int32), iv (1 : Int32), iv (3 : Int32), rv a203, rv a247, iv (1 : Int32), rv b265, .unset] [(.ref a247)]))) (fun t k => XS.aload X265.here hx rfl (hb hby at_166) rfl rfl k) ?_
      obtain ⟨cq309, kq309, qa309, qb309, qc309⟩ := isOf hZ265 rfl Exo265
      obtain ⟨_, _, ⟨T309, L309, k309, n309⟩, -, X309, ⟨Lc309, hQ309, l309, yy309, zz309⟩, st309⟩ := X265.virtualBack hx (y := own_y17) (z := own_y17) ho265 (mvT hZ265 w_20) (mvT hZ265 w_21) (notFace_of_selects (args := #[]) (mvT hZ265 w_23)) (mvT hZ265 w_23) (mvT hZ265 w_22) (by decide) (backOf (W := 0) (own_ae l Z a0 hw [] a247 (7 : Int32) (8 : Int32) T265.heap n0 gpo265 geo265) hZ265 w_24 w_4 (by decide) (by decide)) qa309 qc309 (g := (mkF m 168 #[iv p0, iv p1, iv (5 : Int32), iv (1 : Int32), iv (3 : Int32), rv a203, rv a247, iv (1 : Int32), rv b265, .unset] [(.ref a247)])) rfl (by rw [hml]; rfl) (Steps.refl _) (argsL := []) (rest := []) (lenOf own_pd12 rfl) rfl (by show 2 * 0 + _ ≤ _; exact own_b rfl) (hb hby at_168) (fun _ _ => ⟨rfl, rfl, (own_b rfl : 5 + 0 ≤ _), (own_b rfl : 50 + 0 ≤ _)⟩)
      dsimp only [Pt.U, Pt.locs, Pt.cells, Pt.slots] at X309 l309 yy309 zz309 st309 hQ309
      obtain ⟨rfl, Nq309, eq309⟩ := hQ309
      obtain ⟨L309, X309, N309⟩ := own_absC (K := 5) (K' := 50) X309 l309 yy309 zz309 N265 Nq309
      have e309 : T309.heap = T265.heap := eq309
      refine own_tr (B := (T309.setTop (mkF m 171 #[iv p0, iv p1, iv (5 : Int32), iv (1 : Int32), iv (3 : Int32), rv a203, rv a247, iv (1 : Int32), rv b265, .unset] [(.int (own_eqr (7 : Int32) (8 : Int32)))]))) st309 ?_
      rw [show own_eqr (7 : Int32) (8 : Int32) = (0 : Int32) from by decide]
      refine own_go (B := (T309.setTop (mkF m 172 #[iv p0, iv p1, iv (5 : Int32), iv (1 : Int32), iv (3 : Int32), rv a203, rv a247, iv (1 : Int32), rv b265, .unset] [(.int (5 : Int32)), (.int (0 : Int32))]))) (fun t k => XS.iloadN X309.here hx rfl (hb hby at_171) rfl k) ?_
      refine own_go (B := (T309.setTop (mkF m 174 #[iv p0, iv p1, iv (5 : Int32), iv (1 : Int32), iv (3 : Int32), rv a203, rv a247, iv (1 : Int32), rv b265, .unset] [(.int (6 : Int32)), (.int (5 : Int32)), (.int (0 : Int32))]))) (fun t k => own_bipush (v := (6 : Int32)) X309.here hx rfl (hb hby at_172) (by decide) k) ?_
      have hc174 : ¬ (5 : Int32) = (6 : Int32) := (by decide)
      refine own_icmpY X309 hx (hb hby at_174) (pc' := 181) (by decide) (by decide) hc174 ?_
      refine own_go (B := (T309.setTop (mkF m 182 #[iv p0, iv p1, iv (5 : Int32), iv (1 : Int32), iv (3 : Int32), rv a203, rv a247, iv (1 : Int32), rv b265, .unset] [(.int (0 : Int32)), (.int (0 : Int32))]))) (fun t k => own_iconst (v := (0 : Int32)) X309.here hx rfl (hb hby at_181) (by decide) k) ?_
      have hc182 : (0 : Int32) = (0 : Int32) := (by decide)
      refine own_icmpN X309 hx (hb hby at_182) (pn := 185) rfl hc182 ?_
      refine own_go (B := (T309.setTop (mkF m 186 #[iv p0, iv p1, iv (5 : Int32), iv (1 : Int32), iv (3 : Int32), rv a203, rv a247, iv (1 : Int32), rv b265, .unset] [(.int (1 : Int32))]))) (fun t k => own_iconst (v := (1 : Int32)) X309.here hx rfl (hb hby at_185) (by decide) k) ?_
      refine own_go (B := (T309.setTop (mkF m 190 #[iv p0, iv p1, iv (5 : Int32), iv (1 : Int32), iv (3 : Int32), rv a203, rv a247, iv (1 : Int32), rv b265, .unset] [(.int (1 : Int32))]))) (fun t k => XS.goto X309.here hx rfl (pc0 := 186) (pc' := 190) rfl (hb hby at_186) (by decide) (by decide) k) ?_
      refine own_go (B := (T309.setTop (mkF m 192 #[iv p0, iv p1, iv (5 : Int32), iv (1 : Int32), iv (3 : Int32), rv a203, rv a247, iv (1 : Int32), rv b265, .unset] []))) (fun t k => XS.istore X309.here hx rfl (hb hby at_190) rfl (l' := #[iv p0, iv p1, iv (5 : Int32), iv (1 : Int32), iv (3 : Int32), rv a203, rv a247, iv (1 : Int32), rv b265, .unset]) rfl k) ?_
      refine own_go (B := (T309.setTop (mkF m 194 #[iv p0, iv p1, iv (5 : Int32), iv (1 : Int32), iv (3 : Int32), rv a203, rv a247, iv (1 : Int32), rv b265, .unset] [(.int (1 : Int32))]))) (fun t k => XS.iload X309.here hx rfl (hb hby at_192) rfl k) ?_
      have hc194 : ¬ (1 : Int32) = (0 : Int32) := (by decide)
      refine own_ifN X309 hx (hb hby at_194) (pn := 197) rfl hc194 ?_
      refine own_go (B := (T309.setTop (mkF m 199 #[iv p0, iv p1, iv (5 : Int32), iv (1 : Int32), iv (3 : Int32), rv a203, rv a247, iv (1 : Int32), rv b265, .unset] [(.ref b265)]))) (fun t k => XS.aload X309.here hx rfl (hb hby at_197) rfl rfl k) ?_
      obtain ⟨cq310, kq310, qa310, qb310, qc310⟩ := isOf hZ265 e309 Exi265
      obtain ⟨_, _, ⟨T310, L310, k310, n310⟩, -, X310, ⟨Lc310, hQ310, l310, yy310, zz310⟩, st310⟩ := X309.virtualBack hx (y := own_y17) (z := own_y17) ho265 (mvT hZ265 w_20) (mvT hZ265 w_21) (notFace_of_selects (args := #[]) (mvT hZ265 w_23)) (mvT hZ265 w_23) (mvT hZ265 w_22) (by decide) (backOf (W := 0) (own_ae l Z a0 hw [] b265 (2 : Int32) (7 : Int32) T265.heap n0 gpi265 gei265) hZ265 w_24 w_4 (by decide) (by decide)) qa310 qc310 (g := (mkF m 199 #[iv p0, iv p1, iv (5 : Int32), iv (1 : Int32), iv (3 : Int32), rv a203, rv a247, iv (1 : Int32), rv b265, .unset] [(.ref b265)])) rfl (by rw [hml]; rfl) (Steps.refl _) (argsL := []) (rest := []) (lenOf own_pd12 rfl) rfl (by show 2 * 0 + _ ≤ _; exact own_b rfl) (hb hby at_199) (fun _ _ => ⟨rfl, e309, (own_b rfl : 5 + 0 ≤ _), (own_b rfl : 50 + 0 ≤ _)⟩)
      dsimp only [Pt.U, Pt.locs, Pt.cells, Pt.slots] at X310 l310 yy310 zz310 st310 hQ310
      obtain ⟨rfl, Nq310, eq310⟩ := hQ310
      obtain ⟨L310, X310, N310⟩ := own_absC (K := 5) (K' := 50) X310 l310 yy310 zz310 N309 Nq310
      have e310 : T310.heap = T265.heap := eq310
      refine own_tr (B := (T310.setTop (mkF m 202 #[iv p0, iv p1, iv (5 : Int32), iv (1 : Int32), iv (3 : Int32), rv a203, rv a247, iv (1 : Int32), rv b265, .unset] [(.int (own_eqr (2 : Int32) (7 : Int32)))]))) st310 ?_
      rw [show own_eqr (2 : Int32) (7 : Int32) = (0 : Int32) from by decide]
      refine own_go (B := (T310.setTop (mkF m 203 #[iv p0, iv p1, iv (5 : Int32), iv (1 : Int32), iv (3 : Int32), rv a203, rv a247, iv (1 : Int32), rv b265, .unset] [(.int (5 : Int32)), (.int (0 : Int32))]))) (fun t k => XS.iloadN X310.here hx rfl (hb hby at_202) rfl k) ?_
      have hc203 : ¬ (5 : Int32) = (0 : Int32) := (by decide)
      refine own_ifY X310 hx (hb hby at_203) (pc' := 210) (by decide) (by decide) hc203 ?_
      refine own_go (B := (T310.setTop (mkF m 211 #[iv p0, iv p1, iv (5 : Int32), iv (1 : Int32), iv (3 : Int32), rv a203, rv a247, iv (1 : Int32), rv b265, .unset] [(.int (0 : Int32)), (.int (0 : Int32))]))) (fun t k => own_iconst (v := (0 : Int32)) X310.here hx rfl (hb hby at_210) (by decide) k) ?_
      have hc211 : (0 : Int32) = (0 : Int32) := (by decide)
      refine own_icmpN X310 hx (hb hby at_211) (pn := 214) rfl hc211 ?_
      refine own_go (B := (T310.setTop (mkF m 215 #[iv p0, iv p1, iv (5 : Int32), iv (1 : Int32), iv (3 : Int32), rv a203, rv a247, iv (1 : Int32), rv b265, .unset] [(.int (1 : Int32))]))) (fun t k => own_iconst (v := (1 : Int32)) X310.here hx rfl (hb hby at_214) (by decide) k) ?_
      refine own_go (B := (T310.setTop (mkF m 219 #[iv p0, iv p1, iv (5 : Int32), iv (1 : Int32), iv (3 : Int32), rv a203, rv a247, iv (1 : Int32), rv b265, .unset] [(.int (1 : Int32))]))) (fun t k => XS.goto X310.here hx rfl (pc0 := 215) (pc' := 219) rfl (hb hby at_215) (by decide) (by decide) k) ?_
      refine own_go (B := (T310.setTop (mkF m 221 #[iv p0, iv p1, iv (5 : Int32), iv (1 : Int32), iv (3 : Int32), rv a203, rv a247, iv (1 : Int32), rv b265, .unset] []))) (fun t k => XS.istore X310.here hx rfl (hb hby at_219) rfl (l' := #[iv p0, iv p1, iv (5 : Int32), iv (1 : Int32), iv (3 : Int32), rv a203, rv a247, iv (1 : Int32), rv b265, .unset]) rfl k) ?_
      refine own_go (B := (T310.setTop (mkF m 222 #[iv p0, iv p1, iv (5 : Int32), iv (1 : Int32), iv (3 : Int32), rv a203, rv a247, iv (1 : Int32), rv b265, .unset] [(.int (5 : Int32))]))) (fun t k => XS.iloadN X310.here hx rfl (hb hby at_221) rfl k) ?_
      refine own_go (B := (T310.setTop (mkF m 224 #[iv p0, iv p1, iv (5 : Int32), iv (1 : Int32), iv (3 : Int32), rv a203, rv a247, iv (1 : Int32), rv b265, .unset] [(.int (3 : Int32)), (.int (5 : Int32))]))) (fun t k => XS.iload X310.here hx rfl (hb hby at_222) rfl k) ?_
      refine own_go (B := (T310.setTop (mkF m 225 #[iv p0, iv p1, iv (5 : Int32), iv (1 : Int32), iv (3 : Int32), rv a203, rv a247, iv (1 : Int32), rv b265, .unset] [(.int ((5 : Int32) / (3 : Int32)))]))) (fun t k => XS.idiv (x := (5 : Int32)) (y := (3 : Int32)) X310.here hx rfl (hb hby at_224) rfl (by decide) k) ?_
      rw [show ((5 : Int32) / (3 : Int32)) = (1 : Int32) from by decide]
      refine own_go (B := (T310.setTop (mkF m 227 #[iv p0, iv p1, iv (5 : Int32), iv (1 : Int32), iv (3 : Int32), rv a203, rv a247, iv (1 : Int32), rv b265, iv (1 : Int32)] []))) (fun t k => XS.istore X310.here hx rfl (hb hby at_225) rfl (l' := #[iv p0, iv p1, iv (5 : Int32), iv (1 : Int32), iv (3 : Int32), rv a203, rv a247, iv (1 : Int32), rv b265, iv (1 : Int32)]) rfl k) ?_
      refine own_go (B := (T310.setTop (mkF m 229 #[iv p0, iv p1, iv (5 : Int32), iv (1 : Int32), iv (3 : Int32), rv a203, rv a247, iv (1 : Int32), rv b265, iv (1 : Int32)] [(.int (1 : Int32))]))) (fun t k => XS.iload X310.here hx rfl (hb hby at_227) rfl k) ?_
      refine own_go (B := (T310.setTop (mkF m 230 #[iv p0, iv p1, iv (5 : Int32), iv (1 : Int32), iv (3 : Int32), rv a203, rv a247, iv (1 : Int32), rv b265, iv (1 : Int32)] [(.int (1 : Int32)), (.int (1 : Int32))]))) (fun t k => own_iconst (v := (1 : Int32)) X310.here hx rfl (hb hby at_229) (by decide) k) ?_
      have hc230 : ¬ (1 : Int32) < (1 : Int32) := (by decide)
      refine own_icmpN X310 hx (hb hby at_230) (pn := 233) rfl hc230 ?_
      refine own_go (B := (T310.setTop (mkF m 235 #[iv p0, iv p1, iv (5 : Int32), iv (1 : Int32), iv (3 : Int32), rv a203, rv a247, iv (1 : Int32), rv b265, iv (1 : Int32)] [(.ref b265)]))) (fun t k => XS.aload X310.here hx rfl (hb hby at_233) rfl rfl k) ?_
      refine own_go (B := (T310.setTop (mkF m 236 #[iv p0, iv p1, iv (5 : Int32), iv (1 : Int32), iv (3 : Int32), rv a203, rv a247, iv (1 : Int32), rv b265, iv (1 : Int32)] [(.int (1 : Int32)), (.ref b265)]))) (fun t k => XS.iloadN X310.here hx rfl (hb hby at_235) rfl k) ?_
      obtain ⟨_, _, ⟨T311, L311, k311, n311⟩, -, X311, hs311, hg311, ⟨Lc311, hQ311, l311, yy311, zz311⟩, st311⟩ := callSS X310 hx (y := own_y19) ho265 (mvT hZ265 w_42) (mvT hZ265 w_43) (mvT hZ265 w_44) (mvT hZ265 w_45) (by decide) (backOfS (W := 0) (own_ro4 l Z a0 hw [] b265 a203 (7 : Int32) (5 : Int32) z71 z92 zz zm T265.heap n0 F266 Exi265 gn_b265 gbi265 gpi265 gei265 F268 hf7 hf71 hf92 (by decide) (by decide) (own_sta_keep hZS F267 (fun _ q => nomatch q)) (Exa.keep hZE F267) (Fld.keep hZF F267 nin0) (own_Ar_keep hZV F267 nin0) (fun q => absurd hZE.lt (by rw [← q]; exact Nat.not_lt.mpr (Nat.le_trans F258.1 gz265)))) hZ265 w_45 w_44 (by decide) (by decide)) (g := (mkF m 236 #[iv p0, iv p1, iv (5 : Int32), iv (1 : Int32), iv (3 : Int32), rv a203, rv a247, iv (1 : Int32), rv b265, iv (1 : Int32)] [(.int (1 : Int32)), (.ref b265)])) rfl (by rw [hml]; rfl) (argsL := [(.ref b265), (.int (1 : Int32))]) (rest := []) (lenOf own_pd14 rfl) rfl (by show 2 * 0 + _ ≤ _; exact own_b rfl) (hb hby at_236) (fun _ _ => ⟨rfl, e310, (own_b rfl : 5 + 5 ≤ _), (own_b rfl : 50 + 40 ≤ _)⟩)
      dsimp only [Pt.U, Pt.locs, Pt.cells, Pt.slots] at X311 l311 yy311 zz311 st311 hQ311 hs311 hg311
      obtain ⟨rfl, Nq311, K311, Ex311, gb311, gp311, ge311⟩ := hQ311
      obtain ⟨L311, X311, N311⟩ := own_absC (K := 10) (K' := 90) X311 l311 yy311 zz311 N310 Nq311
      have X311 : Stand p l e room_1 (s.setVm T311.vm) m #[(.int p0), (.int p1)] below meth c T311 L311 10 90 := X311
      have hS311 := foldS hS265 (T := T310) (by rw [e310]; exact hk265) hs311 hg311
      have hZ311 : Z.Warmed39 (s.setVm T311.vm).vm := State.Warmed39.trans (t := s.setVm T265.vm) hZ265 hs311.1
      have ho311 : (s.setVm T311.vm).vm.findClass "com/example/honeybee/honeybee/device/DerReaderAtEndPinLaw" = some m.cls := by rw [show (s.setVm T311.vm).vm = T311.vm from rfl, hs311.1.alike.findClass]; exact ho265
      have F312 : n0 ≤ T311.heap.size := Nat.le_trans F266 K311.1
      have F313 := Keep.trans F267 K311 (allS (Or.inr (Nat.le_trans F258.1 gz265)) all0)
      have F314 := own_Ar_keep F268 K311 (ninS (Ne.symm nb265_a203) nin0)
      have F315 := Exa.keep Exo265 K311
      have F316 := Fld.keep gbo265 K311 (ninS (Ne.symm nb265_a247) nin0)
      have F317 := Fld.keep gpo265 K311 (ninS (Ne.symm nb265_a247) nin0)
      have F318 := Fld.keep geo265 K311 (ninS (Ne.symm nb265_a247) nin0)
      have F319 := Exa.keep Exi265 K311
      have hk311 : T311.heap.size ≤ T311.heap.size := Nat.le_refl _
      refine own_tr (B := (T311.setTop (mkF m 239 #[iv p0, iv p1, iv (5 : Int32), iv (1 : Int32), iv (3 : Int32), rv a203, rv a247, iv (1 : Int32), rv b265, iv (1 : Int32)] []))) st311 ?_
      refine own_go (B := (T311.setTop (mkF m 241 #[iv p0, iv p1, iv (5 : Int32), iv (1 : Int32), iv (3 : Int32), rv a203, rv a247, iv (1 : Int32), rv b265, iv (1 : Int32)] [(.int (1 : Int32))]))) (fun t k => XS.iload X311.here hx rfl (hb hby at_239) rfl k) ?_
      have hc241 : ¬ (1 : Int32) = (0 : Int32) := (by decide)
      refine own_ifN X311 hx (hb hby at_241) (pn := 244) rfl hc241 ?_
      refine own_go (B := (T311.setTop (mkF m 246 #[iv p0, iv p1, iv (5 : Int32), iv (1 : Int32), iv (3 : Int32), rv a203, rv a247, iv (1 : Int32), rv b265, iv (1 : Int32)] [(.ref b265)]))) (fun t k => XS.aload X311.here hx rfl (hb hby at_244) rfl rfl k) ?_
      obtain ⟨cq323, kq323, qa323, qb323, qc323⟩ := isOf hZ311 rfl Ex311
      obtain ⟨_, _, ⟨T323, L323, k323, n323⟩, -, X323, ⟨Lc323, hQ323, l323, yy323, zz323⟩, st323⟩ := X311.virtualBack hx (y := own_y17) (z := own_y17) ho311 (mvT hZ311 w_20) (mvT hZ311 w_21) (notFace_of_selects (args := #[]) (mvT hZ311 w_23)) (mvT hZ311 w_23) (mvT hZ311 w_22) (by decide) (backOf (W := 0) (own_ae l Z a0 hw [] b265 (5 : Int32) (7 : Int32) T311.heap n0 gp311 ge311) hZ311 w_24 w_4 (by decide) (by decide)) qa323 qc323 (g := (mkF m 246 #[iv p0, iv p1, iv (5 : Int32), iv (1 : Int32), iv (3 : Int32), rv a203, rv a247, iv (1 : Int32), rv b265, iv (1 : Int32)] [(.ref b265)])) rfl (by rw [hml]; rfl) (Steps.refl _) (argsL := []) (rest := []) (lenOf own_pd12 rfl) rfl (by show 2 * 0 + _ ≤ _; exact own_b rfl) (hb hby at_246) (fun _ _ => ⟨rfl, rfl, (own_b rfl : 10 + 0 ≤ _), (own_b rfl : 90 + 0 ≤ _)⟩)
      dsimp only [Pt.U, Pt.locs, Pt.cells, Pt.slots] at X323 l323 yy323 zz323 st323 hQ323
      obtain ⟨rfl, Nq323, eq323⟩ := hQ323
      obtain ⟨L323, X323, N323⟩ := own_absC (K := 10) (K' := 90) X323 l323 yy323 zz323 N311 Nq323
      have e323 : T323.heap = T311.heap := eq323
      refine own_tr (B := (T323.setTop (mkF m 249 #[iv p0, iv p1, iv (5 : Int32), iv (1 : Int32), iv (3 : Int32), rv a203, rv a247, iv (1 : Int32), rv b265, iv (1 : Int32)] [(.int (own_eqr (5 : Int32) (7 : Int32)))]))) st323 ?_
      rw [show own_eqr (5 : Int32) (7 : Int32) = (0 : Int32) from by decide]
      refine own_go (B := (T323.setTop (mkF m 251 #[iv p0, iv p1, iv (5 : Int32), iv (1 : Int32), iv (3 : Int32), rv a203, rv a247, iv (1 : Int32), rv b265, iv (1 : Int32)] [(.int (3 : Int32)), (.int (0 : Int32))]))) (fun t k => XS.iload X323.here hx rfl (hb hby at_249) rfl k) ?_
      refine own_go (B := (T323.setTop (mkF m 252 #[iv p0, iv p1, iv (5 : Int32), iv (1 : Int32), iv (3 : Int32), rv a203, rv a247, iv (1 : Int32), rv b265, iv (1 : Int32)] [(.int (5 : Int32)), (.int (3 : Int32)), (.int (0 : Int32))]))) (fun t k => XS.iloadN X323.here hx rfl (hb hby at_251) rfl k) ?_
      have hc252 : ¬ (3 : Int32) = (5 : Int32) := (by decide)
      refine own_icmpY X323 hx (hb hby at_252) (pc' := 259) (by decide) (by decide) hc252 ?_
      refine own_go (B := (T323.setTop (mkF m 260 #[iv p0, iv p1, iv (5 : Int32), iv (1 : Int32), iv (3 : Int32), rv a203, rv a247, iv (1 : Int32), rv b265, iv (1 : Int32)] [(.int (0 : Int32)), (.int (0 : Int32))]))) (fun t k => own_iconst (v := (0 : Int32)) X323.here hx rfl (hb hby at_259) (by decide) k) ?_
      have hc260 : (0 : Int32) = (0 : Int32) := (by decide)
      refine own_icmpN X323 hx (hb hby at_260) (pn := 263) rfl hc260 ?_
      refine own_go (B := (T323.setTop (mkF m 264 #[iv p0, iv p1, iv (5 : Int32), iv (1 : Int32), iv (3 : Int32), rv a203, rv a247, iv (1 : Int32), rv b265, iv (1 : Int32)] [(.int (1 : Int32))]))) (fun t k => own_iconst (v := (1 : Int32)) X323.here hx rfl (hb hby at_263) (by decide) k) ?_
      refine own_go (B := (T323.setTop (mkF m 268 #[iv p0, iv p1, iv (5 : Int32), iv (1 : Int32), iv (3 : Int32), rv a203, rv a247, iv (1 : Int32), rv b265, iv (1 : Int32)] [(.int (1 : Int32))]))) (fun t k => XS.goto X323.here hx rfl (pc0 := 264) (pc' := 268) rfl (hb hby at_264) (by decide) (by decide) k) ?_
      refine own_go (B := (T323.setTop (mkF m 270 #[iv p0, iv p1, iv (5 : Int32), iv (1 : Int32), iv (3 : Int32), rv a203, rv a247, iv (1 : Int32), rv b265, iv (1 : Int32)] []))) (fun t k => XS.istore X323.here hx rfl (hb hby at_268) rfl (l' := #[iv p0, iv p1, iv (5 : Int32), iv (1 : Int32), iv (3 : Int32), rv a203, rv a247, iv (1 : Int32), rv b265, iv (1 : Int32)]) rfl k) ?_
      refine own_go (B := (T323.setTop (mkF m 272 #[iv p0, iv p1, iv (5 : Int32), iv (1 : Int32), iv (3 : Int32), rv a203, rv a247, iv (1 : Int32), rv b265, iv (1 : Int32)] [(.int (1 : Int32))]))) (fun t k => XS.iload X323.here hx rfl (hb hby at_270) rfl k) ?_
      refine own_go (B := (T323.setTop (mkF m 273 #[iv p0, iv p1, iv (5 : Int32), iv (1 : Int32), iv (3 : Int32), rv a203, rv a247, iv (1 : Int32), rv b265, iv (1 : Int32)] [(.int (2 : Int32)), (.int (1 : Int32))]))) (fun t k => own_iconst (v := (2 : Int32)) X323.here hx rfl (hb hby at_272) (by decide) k) ?_
      have hc273 : (1 : Int32) < (2 : Int32) := (by decide)
      refine own_icmpY X323 hx (hb hby at_273) (pc' := 315) (by decide) (by decide) hc273 ?_
      refine own_go (B := (T323.setTop (mkF m 317 #[iv p0, iv p1, iv (5 : Int32), iv (1 : Int32), iv (3 : Int32), rv a203, rv a247, iv (1 : Int32), rv b265, iv (1 : Int32)] [(.int (1 : Int32))]))) (fun t k => XS.iload X323.here hx rfl (hb hby at_315) rfl k) ?_
      refine own_go (B := (T323.setTop (mkF m 318 #[iv p0, iv p1, iv (5 : Int32), iv (1 : Int32), iv (3 : Int32), rv a203, rv a247, iv (1 : Int32), rv b265, iv (1 : Int32)] [(.int (3 : Int32)), (.int (1 : Int32))]))) (fun t k => own_iconst (v := (3 : Int32)) X323.here hx rfl (hb hby at_317) (by decide) k) ?_
      have hc318 : (1 : Int32) < (3 : Int32) := (by decide)
      refine own_icmpY X323 hx (hb hby at_318) (pc' := 360) (by decide) (by decide) hc318 ?_
      refine own_go (B := (T323.setTop (mkF m 362 #[iv p0, iv p1, iv (5 : Int32), iv (1 : Int32), iv (3 : Int32), rv a203, rv a247, iv (1 : Int32), rv b265, iv (1 : Int32)] [(.int (1 : Int32))]))) (fun t k => XS.iload X323.here hx rfl (hb hby at_360) rfl k) ?_
      exact own_retWZ X323 hx hlk hS311 (by rw [e323]; exact hk311) Bd.returns (hb hby at_362) (by decide) (own_b rfl) (own_b rfl) (Q := (own_law_Q Z p0 p1 zz zm h0 n0)) ⟨rfl, N323⟩
    · obtain rfl : pe = (8 : Int32) := hpe.trans (by decide)
      refine own_go (B := (T265.setTop (mkF m 161 #[iv p0, iv p1, iv (6 : Int32), iv (1 : Int32), iv (3 : Int32), rv a203, rv a247, iv (1 : Int32), rv b265, .unset] []))) (fun t k => XS.astore X265.here hx rfl (hb hby at_159) rfl rfl (l' := #[iv p0, iv p1, iv (6 : Int32), iv (1 : Int32), iv (3 : Int32), rv a203, rv a247, iv (1 : Int32), rv b265, .unset]) rfl k) ?_
      refine own_go (B := (T265.setTop (mkF m 163 #[iv p0, iv p1, iv (6 : Int32), iv (1 : Int32), iv (3 : Int32), rv a203, rv a247, iv (1 : Int32), rv b265, .unset] [(.int (1 : Int32))]))) (fun t k => XS.iload X265.here hx rfl (hb hby at_161) rfl k) ?_
      have hc163 : ¬ (1 : Int32) = (0 : Int32) := (by decide)
      refine own_ifN X265 hx (hb hby at_163) (pn := 166) rfl hc163 ?_
      refine own_go (B := (T265.setTop (mkF m 168 #[iv p0, iv p1, iv (6 : Int32), iv (1 : Int32), iv (3 : Int32), rv a203, rv a247, iv (1 : Int32), rv b265, .unset] [(.ref a247)]))) (fun t k => XS.aload X265.here hx rfl (hb hby at_166) rfl rfl k) ?_
      obtain ⟨cq324, kq324, qa324, qb324, qc324⟩ := isOf hZ265 rfl Exo265
      obtain ⟨_, _, ⟨T324, L324, k324, n324⟩, -, X324, ⟨Lc324, hQ324, l324, yy324, zz324⟩, st324⟩ := X265.virtualBack hx (y := own_y17) (z := own_y17) ho265 (mvT hZ265 w_20) (mvT hZ265 w_21) (notFace_of_selects (args := #[]) (mvT hZ265 w_23)) (mvT hZ265 w_23) (mvT hZ265 w_22) (by decide) (backOf (W := 0) (own_ae l Z a0 hw [] a247 (8 : Int32) (8 : Int32) T265.heap n0 gpo265 geo265) hZ265 w_24 w_4 (by decide) (by decide)) qa324 qc324 (g := (mkF m 168 #[iv p0, iv p1, iv (6 : Int32), iv (1 : Int32), iv (3 : Int32), rv a203, rv a247, iv (1 : Int32), rv b265, .unset] [(.ref a247)])) rfl (by rw [hml]; rfl) (Steps.refl _) (argsL := []) (rest := []) (lenOf own_pd12 rfl) rfl (by show 2 * 0 + _ ≤ _; exact own_b rfl) (hb hby at_168) (fun _ _ => ⟨rfl, rfl, (own_b rfl : 5 + 0 ≤ _), (own_b rfl : 50 + 0 ≤ _)⟩)
      dsimp only [Pt.U, Pt.locs, Pt.cells, Pt.slots] at X324 l324 yy324 zz324 st324 hQ324
      obtain ⟨rfl, Nq324, eq324⟩ := hQ324
      obtain ⟨L324, X324, N324⟩ := own_absC (K := 5) (K' := 50) X324 l324 yy324 zz324 N265 Nq324
      have e324 : T324.heap = T265.heap := eq324
      refine own_tr (B := (T324.setTop (mkF m 171 #[iv p0, iv p1, iv (6 : Int32), iv (1 : Int32), iv (3 : Int32), rv a203, rv a247, iv (1 : Int32), rv b265, .unset] [(.int (own_eqr (8 : Int32) (8 : Int32)))]))) st324 ?_
      rw [show own_eqr (8 : Int32) (8 : Int32) = (1 : Int32) from by decide]
      refine own_go (B := (T324.setTop (mkF m 172 #[iv p0, iv p1, iv (6 : Int32), iv (1 : Int32), iv (3 : Int32), rv a203, rv a247, iv (1 : Int32), rv b265, .unset] [(.int (6 : Int32)), (.int (1 : Int32))]))) (fun t k => XS.iloadN X324.here hx rfl (hb hby at_171) rfl k) ?_
      refine own_go (B := (T324.setTop (mkF m 174 #[iv p0, iv p1, iv (6 : Int32), iv (1 : Int32), iv (3 : Int32), rv a203, rv a247, iv (1 : Int32), rv b265, .unset] [(.int (6 : Int32)), (.int (6 : Int32)), (.int (1 : Int32))]))) (fun t k => own_bipush (v := (6 : Int32)) X324.here hx rfl (hb hby at_172) (by decide) k) ?_
      have hc174 : (6 : Int32) = (6 : Int32) := (by decide)
      refine own_icmpN X324 hx (hb hby at_174) (pn := 177) rfl hc174 ?_
      refine own_go (B := (T324.setTop (mkF m 178 #[iv p0, iv p1, iv (6 : Int32), iv (1 : Int32), iv (3 : Int32), rv a203, rv a247, iv (1 : Int32), rv b265, .unset] [(.int (1 : Int32)), (.int (1 : Int32))]))) (fun t k => own_iconst (v := (1 : Int32)) X324.here hx rfl (hb hby at_177) (by decide) k) ?_
      refine own_go (B := (T324.setTop (mkF m 182 #[iv p0, iv p1, iv (6 : Int32), iv (1 : Int32), iv (3 : Int32), rv a203, rv a247, iv (1 : Int32), rv b265, .unset] [(.int (1 : Int32)), (.int (1 : Int32))]))) (fun t k => XS.goto X324.here hx rfl (pc0 := 178) (pc' := 182) rfl (hb hby at_178) (by decide) (by decide) k) ?_
      have hc182 : (1 : Int32) = (1 : Int32) := (by decide)
      refine own_icmpN X324 hx (hb hby at_182) (pn := 185) rfl hc182 ?_
      refine own_go (B := (T324.setTop (mkF m 186 #[iv p0, iv p1, iv (6 : Int32), iv (1 : Int32), iv (3 : Int32), rv a203, rv a247, iv (1 : Int32), rv b265, .unset] [(.int (1 : Int32))]))) (fun t k => own_iconst (v := (1 : Int32)) X324.here hx rfl (hb hby at_185) (by decide) k) ?_
      refine own_go (B := (T324.setTop (mkF m 190 #[iv p0, iv p1, iv (6 : Int32), iv (1 : Int32), iv (3 : Int32), rv a203, rv a247, iv (1 : Int32), rv b265, .unset] [(.int (1 : Int32))]))) (fun t k => XS.goto X324.here hx rfl (pc0 := 186) (pc' := 190) rfl (hb hby at_186) (by decide) (by decide) k) ?_
      refine own_go (B := (T324.setTop (mkF m 192 #[iv p0, iv p1, iv (6 : Int32), iv (1 : Int32), iv (3 : Int32), rv a203, rv a247, iv (1 : Int32), rv b265, .unset] []))) (fun t k => XS.istore X324.here hx rfl (hb hby at_190) rfl (l' := #[iv p0, iv p1, iv (6 : Int32), iv (1 : Int32), iv (3 : Int32), rv a203, rv a247, iv (1 : Int32), rv b265, .unset]) rfl k) ?_
      refine own_go (B := (T324.setTop (mkF m 194 #[iv p0, iv p1, iv (6 : Int32), iv (1 : Int32), iv (3 : Int32), rv a203, rv a247, iv (1 : Int32), rv b265, .unset] [(.int (1 : Int32))]))) (fun t k => XS.iload X324.here hx rfl (hb hby at_192) rfl k) ?_
      have hc194 : ¬ (1 : Int32) = (0 : Int32) := (by decide)
      refine own_ifN X324 hx (hb hby at_194) (pn := 197) rfl hc194 ?_
      refine own_go (B := (T324.setTop (mkF m 199 #[iv p0, iv p1, iv (6 : Int32), iv (1 : Int32), iv (3 : Int32), rv a203, rv a247, iv (1 : Int32), rv b265, .unset] [(.ref b265)]))) (fun t k => XS.aload X324.here hx rfl (hb hby at_197) rfl rfl k) ?_
      obtain ⟨cq325, kq325, qa325, qb325, qc325⟩ := isOf hZ265 e324 Exi265
      obtain ⟨_, _, ⟨T325, L325, k325, n325⟩, -, X325, ⟨Lc325, hQ325, l325, yy325, zz325⟩, st325⟩ := X324.virtualBack hx (y := own_y17) (z := own_y17) ho265 (mvT hZ265 w_20) (mvT hZ265 w_21) (notFace_of_selects (args := #[]) (mvT hZ265 w_23)) (mvT hZ265 w_23) (mvT hZ265 w_22) (by decide) (backOf (W := 0) (own_ae l Z a0 hw [] b265 (2 : Int32) (8 : Int32) T265.heap n0 gpi265 gei265) hZ265 w_24 w_4 (by decide) (by decide)) qa325 qc325 (g := (mkF m 199 #[iv p0, iv p1, iv (6 : Int32), iv (1 : Int32), iv (3 : Int32), rv a203, rv a247, iv (1 : Int32), rv b265, .unset] [(.ref b265)])) rfl (by rw [hml]; rfl) (Steps.refl _) (argsL := []) (rest := []) (lenOf own_pd12 rfl) rfl (by show 2 * 0 + _ ≤ _; exact own_b rfl) (hb hby at_199) (fun _ _ => ⟨rfl, e324, (own_b rfl : 5 + 0 ≤ _), (own_b rfl : 50 + 0 ≤ _)⟩)
      dsimp only [Pt.U, Pt.locs, Pt.cells, Pt.slots] at X325 l325 yy325 zz325 st325 hQ325
      obtain ⟨rfl, Nq325, eq325⟩ := hQ325
      obtain ⟨L325, X325, N325⟩ := own_absC (K := 5) (K' := 50) X325 l325 yy325 zz325 N324 Nq325
      have e325 : T325.heap = T265.heap := eq325
      refine own_tr (B := (T325.setTop (mkF m 202 #[iv p0, iv p1, iv (6 : Int32), iv (1 : Int32), iv (3 : Int32), rv a203, rv a247, iv (1 : Int32), rv b265, .unset] [(.int (own_eqr (2 : Int32) (8 : Int32)))]))) st325 ?_
      rw [show own_eqr (2 : Int32) (8 : Int32) = (0 : Int32) from by decide]
      refine own_go (B := (T325.setTop (mkF m 203 #[iv p0, iv p1, iv (6 : Int32), iv (1 : Int32), iv (3 : Int32), rv a203, rv a247, iv (1 : Int32), rv b265, .unset] [(.int (6 : Int32)), (.int (0 : Int32))]))) (fun t k => XS.iloadN X325.here hx rfl (hb hby at_202) rfl k) ?_
      have hc203 : ¬ (6 : Int32) = (0 : Int32) := (by decide)
      refine own_ifY X325 hx (hb hby at_203) (pc' := 210) (by decide) (by decide) hc203 ?_
      refine own_go (B := (T325.setTop (mkF m 211 #[iv p0, iv p1, iv (6 : Int32), iv (1 : Int32), iv (3 : Int32), rv a203, rv a247, iv (1 : Int32), rv b265, .unset] [(.int (0 : Int32)), (.int (0 : Int32))]))) (fun t k => own_iconst (v := (0 : Int32)) X325.here hx rfl (hb hby at_210) (by decide) k) ?_
      have hc211 : (0 : Int32) = (0 : Int32) := (by decide)
      refine own_icmpN X325 hx (hb hby at_211) (pn := 214) rfl hc211 ?_
      refine own_go (B := (T325.setTop (mkF m 215 #[iv p0, iv p1, iv (6 : Int32), iv (1 : Int32), iv (3 : Int32), rv a203, rv a247, iv (1 : Int32), rv b265, .unset] [(.int (1 : Int32))]))) (fun t k => own_iconst (v := (1 : Int32)) X325.here hx rfl (hb hby at_214) (by decide) k) ?_
      refine own_go (B := (T325.setTop (mkF m 219 #[iv p0, iv p1, iv (6 : Int32), iv (1 : Int32), iv (3 : Int32), rv a203, rv a247, iv (1 : Int32), rv b265, .unset] [(.int (1 : Int32))]))) (fun t k => XS.goto X325.here hx rfl (pc0 := 215) (pc' := 219) rfl (hb hby at_215) (by decide) (by decide) k) ?_
      refine own_go (B := (T325.setTop (mkF m 221 #[iv p0, iv p1, iv (6 : Int32), iv (1 : Int32), iv (3 : Int32), rv a203, rv a247, iv (1 : Int32), rv b265, .unset] []))) (fun t k => XS.istore X325.here hx rfl (hb hby at_219) rfl (l' := #[iv p0, iv p1, iv (6 : Int32), iv (1 : Int32), iv (3 : Int32), rv a203, rv a247, iv (1 : Int32), rv b265, .unset]) rfl k) ?_
      refine own_go (B := (T325.setTop (mkF m 222 #[iv p0, iv p1, iv (6 : Int32), iv (1 : Int32), iv (3 : Int32), rv a203, rv a247, iv (1 : Int32), rv b265, .unset] [(.int (6 : Int32))]))) (fun t k => XS.iloadN X325.here hx rfl (hb hby at_221) rfl k) ?_
      refine own_go (B := (T325.setTop (mkF m 224 #[iv p0, iv p1, iv (6 : Int32), iv (1 : Int32), iv (3 : Int32), rv a203, rv a247, iv (1 : Int32), rv b265, .unset] [(.int (3 : Int32)), (.int (6 : Int32))]))) (fun t k => XS.iload X325.here hx rfl (hb hby at_222) rfl k) ?_
      refine own_go (B := (T325.setTop (mkF m 225 #[iv p0, iv p1, iv (6 : Int32), iv (1 : Int32), iv (3 : Int32), rv a203, rv a247, iv (1 : Int32), rv b265, .unset] [(.int ((6 : Int32) / (3 : Int32)))]))) (fun t k => XS.idiv (x := (6 : Int32)) (y := (3 : Int32)) X325.here hx rfl (hb hby at_224) rfl (by decide) k) ?_
      rw [show ((6 : Int32) / (3 : Int32)) = (2 : Int32) from by decide]
      refine own_go (B := (T325.setTop (mkF m 227 #[iv p0, iv p1, iv (6 : Int32), iv (1 : Int32), iv (3 : Int32), rv a203, rv a247, iv (1 : Int32), rv b265, iv (2 : Int32)] []))) (fun t k => XS.istore X325.here hx rfl (hb hby at_225) rfl (l' := #[iv p0, iv p1, iv (6 : Int32), iv (1 : Int32), iv (3 : Int32), rv a203, rv a247, iv (1 : Int32), rv b265, iv (2 : Int32)]) rfl k) ?_
      refine own_go (B := (T325.setTop (mkF m 229 #[iv p0, iv p1, iv (6 : Int32), iv (1 : Int32), iv (3 : Int32), rv a203, rv a247, iv (1 : Int32), rv b265, iv (2 : Int32)] [(.int (2 : Int32))]))) (fun t k => XS.iload X325.here hx rfl (hb hby at_227) rfl k) ?_
      refine own_go (B := (T325.setTop (mkF m 230 #[iv p0, iv p1, iv (6 : Int32), iv (1 : Int32), iv (3 : Int32), rv a203, rv a247, iv (1 : Int32), rv b265, iv (2 : Int32)] [(.int (1 : Int32)), (.int (2 : Int32))]))) (fun t k => own_iconst (v := (1 : Int32)) X325.here hx rfl (hb hby at_229) (by decide) k) ?_
      have hc230 : ¬ (2 : Int32) < (1 : Int32) := (by decide)
      refine own_icmpN X325 hx (hb hby at_230) (pn := 233) rfl hc230 ?_
      refine own_go (B := (T325.setTop (mkF m 235 #[iv p0, iv p1, iv (6 : Int32), iv (1 : Int32), iv (3 : Int32), rv a203, rv a247, iv (1 : Int32), rv b265, iv (2 : Int32)] [(.ref b265)]))) (fun t k => XS.aload X325.here hx rfl (hb hby at_233) rfl rfl k) ?_
      refine own_go (B := (T325.setTop (mkF m 236 #[iv p0, iv p1, iv (6 : Int32), iv (1 : Int32), iv (3 : Int32), rv a203, rv a247, iv (1 : Int32), rv b265, iv (2 : Int32)] [(.int (1 : Int32)), (.ref b265)]))) (fun t k => XS.iloadN X325.here hx rfl (hb hby at_235) rfl k) ?_
      obtain ⟨_, _, ⟨T326, L326, k326, n326⟩, -, X326, hs326, hg326, ⟨Lc326, hQ326, l326, yy326, zz326⟩, st326⟩ := callSS X325 hx (y := own_y19) ho265 (mvT hZ265 w_42) (mvT hZ265 w_43) (mvT hZ265 w_44) (mvT hZ265 w_45) (by decide) (backOfS (W := 0) (own_ro4 l Z a0 hw [] b265 a203 (8 : Int32) (6 : Int32) z71 z92 zz zm T265.heap n0 F266 Exi265 gn_b265 gbi265 gpi265 gei265 F268 hf7 hf71 hf92 (by decide) (by decide) (own_sta_keep hZS F267 (fun _ q => nomatch q)) (Exa.keep hZE F267) (Fld.keep hZF F267 nin0) (own_Ar_keep hZV F267 nin0) (fun q => absurd hZE.lt (by rw [← q]; exact Nat.not_lt.mpr (Nat.le_trans F258.1 gz265)))) hZ265 w_45 w_44 (by decide) (by decide)) (g := (mkF m 236 #[iv p0, iv p1, iv (6 : Int32), iv (1 : Int32), iv (3 : Int32), rv a203, rv a247, iv (1 : Int32), rv b265, iv (2 : Int32)] [(.int (1 : Int32)), (.ref b265)])) rfl (by rw [hml]; rfl) (argsL := [(.ref b265), (.int (1 : Int32))]) (rest := []) (lenOf own_pd14 rfl) rfl (by show 2 * 0 + _ ≤ _; exact own_b rfl) (hb hby at_236) (fun _ _ => ⟨rfl, e325, (own_b rfl : 5 + 5 ≤ _), (own_b rfl : 50 + 40 ≤ _)⟩)
      dsimp only [Pt.U, Pt.locs, Pt.cells, Pt.slots] at X326 l326 yy326 zz326 st326 hQ326 hs326 hg326
      obtain ⟨rfl, Nq326, K326, Ex326, gb326, gp326, ge326⟩ := hQ326
      obtain ⟨L326, X326, N326⟩ := own_absC (K := 10) (K' := 90) X326 l326 yy326 zz326 N325 Nq326
      have X326 : Stand p l e room_1 (s.setVm T326.vm) m #[(.int p0), (.int p1)] below meth c T326 L326 10 90 := X326
      have hS326 := foldS hS265 (T := T325) (by rw [e325]; exact hk265) hs326 hg326
      have hZ326 : Z.Warmed39 (s.setVm T326.vm).vm := State.Warmed39.trans (t := s.setVm T265.vm) hZ265 hs326.1
      have ho326 : (s.setVm T326.vm).vm.findClass "com/example/honeybee/honeybee/device/DerReaderAtEndPinLaw" = some m.cls := by rw [show (s.setVm T326.vm).vm = T326.vm from rfl, hs326.1.alike.findClass]; exact ho265
      have F327 : n0 ≤ T326.heap.size := Nat.le_trans F266 K326.1
      have F328 := Keep.trans F267 K326 (allS (Or.inr (Nat.le_trans F258.1 gz265)) all0)
      have F329 := own_Ar_keep F268 K326 (ninS (Ne.symm nb265_a203) nin0)
      have F330 := Exa.keep Exo265 K326
      have F331 := Fld.keep gbo265 K326 (ninS (Ne.symm nb265_a247) nin0)
      have F332 := Fld.keep gpo265 K326 (ninS (Ne.symm nb265_a247) nin0)
      have F333 := Fld.keep geo265 K326 (ninS (Ne.symm nb265_a247) nin0)
      have F334 := Exa.keep Exi265 K326
      have hk326 : T326.heap.size ≤ T326.heap.size := Nat.le_refl _
      refine own_tr (B := (T326.setTop (mkF m 239 #[iv p0, iv p1, iv (6 : Int32), iv (1 : Int32), iv (3 : Int32), rv a203, rv a247, iv (1 : Int32), rv b265, iv (2 : Int32)] []))) st326 ?_
      refine own_go (B := (T326.setTop (mkF m 241 #[iv p0, iv p1, iv (6 : Int32), iv (1 : Int32), iv (3 : Int32), rv a203, rv a247, iv (1 : Int32), rv b265, iv (2 : Int32)] [(.int (1 : Int32))]))) (fun t k => XS.iload X326.here hx rfl (hb hby at_239) rfl k) ?_
      have hc241 : ¬ (1 : Int32) = (0 : Int32) := (by decide)
      refine own_ifN X326 hx (hb hby at_241) (pn := 244) rfl hc241 ?_
      refine own_go (B := (T326.setTop (mkF m 246 #[iv p0, iv p1, iv (6 : Int32), iv (1 : Int32), iv (3 : Int32), rv a203, rv a247, iv (1 : Int32), rv b265, iv (2 : Int32)] [(.ref b265)]))) (fun t k => XS.aload X326.here hx rfl (hb hby at_244) rfl rfl k) ?_
      obtain ⟨cq338, kq338, qa338, qb338, qc338⟩ := isOf hZ326 rfl Ex326
      obtain ⟨_, _, ⟨T338, L338, k338, n338⟩, -, X338, ⟨Lc338, hQ338, l338, yy338, zz338⟩, st338⟩ := X326.virtualBack hx (y := own_y17) (z := own_y17) ho326 (mvT hZ326 w_20) (mvT hZ326 w_21) (notFace_of_selects (args := #[]) (mvT hZ326 w_23)) (mvT hZ326 w_23) (mvT hZ326 w_22) (by decide) (backOf (W := 0) (own_ae l Z a0 hw [] b265 (5 : Int32) (8 : Int32) T326.heap n0 gp326 ge326) hZ326 w_24 w_4 (by decide) (by decide)) qa338 qc338 (g := (mkF m 246 #[iv p0, iv p1, iv (6 : Int32), iv (1 : Int32), iv (3 : Int32), rv a203, rv a247, iv (1 : Int32), rv b265, iv (2 : Int32)] [(.ref b265)])) rfl (by rw [hml]; rfl) (Steps.refl _) (argsL := []) (rest := []) (lenOf own_pd12 rfl) rfl (by show 2 * 0 + _ ≤ _; exact own_b rfl) (hb hby at_246) (fun _ _ => ⟨rfl, rfl, (own_b rfl : 10 + 0 ≤ _), (own_b rfl : 90 + 0 ≤ _)⟩)
      dsimp only [Pt.U, Pt.locs, Pt.cells, Pt.slots] at X338 l338 yy338 zz338 st338 hQ338
      obtain ⟨rfl, Nq338, eq338⟩ := hQ338
      obtain ⟨L338, X338, N338⟩ := own_absC (K := 10) (K' := 90) X338 l338 yy338 zz338 N326 Nq338
      have e338 : T338.heap = T326.heap := eq338
      refine own_tr (B := (T338.setTop (mkF m 249 #[iv p0, iv p1, iv (6 : Int32), iv (1 : Int32), iv (3 : Int32), rv a203, rv a247, iv (1 : Int32), rv b265, iv (2 : Int32)] [(.int (own_eqr (5 : Int32) (8 : Int32)))]))) st338 ?_
      rw [show own_eqr (5 : Int32) (8 : Int32) = (0 : Int32) from by decide]
      refine own_go (B := (T338.setTop (mkF m 251 #[iv p0, iv p1, iv (6 : Int32), iv (1 : Int32), iv (3 : Int32), rv a203, rv a247, iv (1 : Int32), rv b265, iv (2 : Int32)] [(.int (3 : Int32)), (.int (0 : Int32))]))) (fun t k => XS.iload X338.here hx rfl (hb hby at_249) rfl k) ?_
      refine own_go (B := (T338.setTop (mkF m 252 #[iv p0, iv p1, iv (6 : Int32), iv (1 : Int32), iv (3 : Int32), rv a203, rv a247, iv (1 : Int32), rv b265, iv (2 : Int32)] [(.int (6 : Int32)), (.int (3 : Int32)), (.int (0 : Int32))]))) (fun t k => XS.iloadN X338.here hx rfl (hb hby at_251) rfl k) ?_
      have hc252 : ¬ (3 : Int32) = (6 : Int32) := (by decide)
      refine own_icmpY X338 hx (hb hby at_252) (pc' := 259) (by decide) (by decide) hc252 ?_
      refine own_go (B := (T338.setTop (mkF m 260 #[iv p0, iv p1, iv (6 : Int32), iv (1 : Int32), iv (3 : Int32), rv a203, rv a247, iv (1 : Int32), rv b265, iv (2 : Int32)] [(.int (0 : Int32)), (.int (0 : Int32))]))) (fun t k => own_iconst (v := (0 : Int32)) X338.here hx rfl (hb hby at_259) (by decide) k) ?_
      have hc260 : (0 : Int32) = (0 : Int32) := (by decide)
      refine own_icmpN X338 hx (hb hby at_260) (pn := 263) rfl hc260 ?_
      refine own_go (B := (T338.setTop (mkF m 264 #[iv p0, iv p1, iv (6 : Int32), iv (1 : Int32), iv (3 : Int32), rv a203, rv a247, iv (1 : Int32), rv b265, iv (2 : Int32)] [(.int (1 : Int32))]))) (fun t k => own_iconst (v := (1 : Int32)) X338.here hx rfl (hb hby at_263) (by decide) k) ?_
      refine own_go (B := (T338.setTop (mkF m 268 #[iv p0, iv p1, iv (6 : Int32), iv (1 : Int32), iv (3 : Int32), rv a203, rv a247, iv (1 : Int32), rv b265, iv (2 : Int32)] [(.int (1 : Int32))]))) (fun t k => XS.goto X338.here hx rfl (pc0 := 264) (pc' := 268) rfl (hb hby at_264) (by decide) (by decide) k) ?_
      refine own_go (B := (T338.setTop (mkF m 270 #[iv p0, iv p1, iv (6 : Int32), iv (1 : Int32), iv (3 : Int32), rv a203, rv a247, iv (1 : Int32), rv b265, iv (2 : Int32)] []))) (fun t k => XS.istore X338.here hx rfl (hb hby at_268) rfl (l' := #[iv p0, iv p1, iv (6 : Int32), iv (1 : Int32), iv (3 : Int32), rv a203, rv a247, iv (1 : Int32), rv b265, iv (2 : Int32)]) rfl k) ?_
      refine own_go (B := (T338.setTop (mkF m 272 #[iv p0, iv p1, iv (6 : Int32), iv (1 : Int32), iv (3 : Int32), rv a203, rv a247, iv (1 : Int32), rv b265, iv (2 : Int32)] [(.int (2 : Int32))]))) (fun t k => XS.iload X338.here hx rfl (hb hby at_270) rfl k) ?_
      refine own_go (B := (T338.setTop (mkF m 273 #[iv p0, iv p1, iv (6 : Int32), iv (1 : Int32), iv (3 : Int32), rv a203, rv a247, iv (1 : Int32), rv b265, iv (2 : Int32)] [(.int (2 : Int32)), (.int (2 : Int32))]))) (fun t k => own_iconst (v := (2 : Int32)) X338.here hx rfl (hb hby at_272) (by decide) k) ?_
      have hc273 : ¬ (2 : Int32) < (2 : Int32) := (by decide)
      refine own_icmpN X338 hx (hb hby at_273) (pn := 276) rfl hc273 ?_
      refine own_go (B := (T338.setTop (mkF m 278 #[iv p0, iv p1, iv (6 : Int32), iv (1 : Int32), iv (3 : Int32), rv a203, rv a247, iv (1 : Int32), rv b265, iv (2 : Int32)] [(.ref b265)]))) (fun t k => XS.aload X338.here hx rfl (hb hby at_276) rfl rfl k) ?_
      refine own_go (B := (T338.setTop (mkF m 279 #[iv p0, iv p1, iv (6 : Int32), iv (1 : Int32), iv (3 : Int32), rv a203, rv a247, iv (1 : Int32), rv b265, iv (2 : Int32)] [(.int (1 : Int32)), (.ref b265)]))) (fun t k => XS.iloadN X338.here hx rfl (hb hby at_278) rfl k) ?_
      obtain ⟨_, _, ⟨T339, L339, k339, n339⟩, -, X339, hs339, hg339, ⟨Lc339, hQ339, l339, yy339, zz339⟩, st339⟩ := callSS X338 hx (y := own_y19) ho326 (mvT hZ326 w_42) (mvT hZ326 w_43) (mvT hZ326 w_44) (mvT hZ326 w_45) (by decide) (backOfS (W := 0) (own_ro7 l Z a0 hw [] b265 a203 (8 : Int32) (6 : Int32) z71 z92 zz zm T326.heap n0 F327 Ex326 gn_b265 gb326 gp326 ge326 F329 hf7 hf71 hf92 (by decide) (by decide) (own_sta_keep hZS F328 (fun _ q => nomatch q)) (Exa.keep hZE F328) (Fld.keep hZF F328 nin0) (own_Ar_keep hZV F328 nin0) (fun q => absurd hZE.lt (by rw [← q]; exact Nat.not_lt.mpr (Nat.le_trans F258.1 gz265)))) hZ326 w_45 w_44 (by decide) (by decide)) (g := (mkF m 279 #[iv p0, iv p1, iv (6 : Int32), iv (1 : Int32), iv (3 : Int32), rv a203, rv a247, iv (1 : Int32), rv b265, iv (2 : Int32)] [(.int (1 : Int32)), (.ref b265)])) rfl (by rw [hml]; rfl) (argsL := [(.ref b265), (.int (1 : Int32))]) (rest := []) (lenOf own_pd14 rfl) rfl (by show 2 * 0 + _ ≤ _; exact own_b rfl) (hb hby at_279) (fun _ _ => ⟨rfl, e338, (own_b rfl : 10 + 5 ≤ _), (own_b rfl : 90 + 40 ≤ _)⟩)
      dsimp only [Pt.U, Pt.locs, Pt.cells, Pt.slots] at X339 l339 yy339 zz339 st339 hQ339 hs339 hg339
      obtain ⟨rfl, Nq339, K339, Ex339, gb339, gp339, ge339⟩ := hQ339
      obtain ⟨L339, X339, N339⟩ := own_absC (K := 15) (K' := 130) X339 l339 yy339 zz339 N338 Nq339
      have X339 : Stand p l e room_1 (s.setVm T339.vm) m #[(.int p0), (.int p1)] below meth c T339 L339 15 130 := X339
      have hS339 := foldS hS326 (T := T338) (by rw [e338]; exact hk326) hs339 hg339
      have hZ339 : Z.Warmed39 (s.setVm T339.vm).vm := State.Warmed39.trans (t := s.setVm T326.vm) hZ326 hs339.1
      have ho339 : (s.setVm T339.vm).vm.findClass "com/example/honeybee/honeybee/device/DerReaderAtEndPinLaw" = some m.cls := by rw [show (s.setVm T339.vm).vm = T339.vm from rfl, hs339.1.alike.findClass]; exact ho326
      have F340 : n0 ≤ T339.heap.size := Nat.le_trans F327 K339.1
      have F341 := Keep.trans F328 K339 (allS (Or.inr (Nat.le_trans F258.1 gz265)) all0)
      have F342 := own_Ar_keep F329 K339 (ninS (Ne.symm nb265_a203) nin0)
      have F343 := Exa.keep F330 K339
      have F344 := Fld.keep F331 K339 (ninS (Ne.symm nb265_a247) nin0)
      have F345 := Fld.keep F332 K339 (ninS (Ne.symm nb265_a247) nin0)
      have F346 := Fld.keep F333 K339 (ninS (Ne.symm nb265_a247) nin0)
      have F347 := Exa.keep Ex326 K339
      have hk339 : T339.heap.size ≤ T339.heap.size := Nat.le_refl _
      refine own_tr (B := (T339.setTop (mkF m 282 #[iv p0, iv p1, iv (6 : Int32), iv (1 : Int32), iv (3 : Int32), rv a203, rv a247, iv (1 : Int32), rv b265, iv (2 : Int32)] []))) st339 ?_
      refine own_go (B := (T339.setTop (mkF m 284 #[iv p0, iv p1, iv (6 : Int32), iv (1 : Int32), iv (3 : Int32), rv a203, rv a247, iv (1 : Int32), rv b265, iv (2 : Int32)] [(.int (1 : Int32))]))) (fun t k => XS.iload X339.here hx rfl (hb hby at_282) rfl k) ?_
      have hc284 : ¬ (1 : Int32) = (0 : Int32) := (by decide)
      refine own_ifN X339 hx (hb hby at_284) (pn := 287) rfl hc284 ?_
      refine own_go (B := (T339.setTop (mkF m 289 #[iv p0, iv p1, iv (6 : Int32), iv (1 : Int32), iv (3 : Int32), rv a203, rv a247, iv (1 : Int32), rv b265, iv (2 : Int32)] [(.ref b265)]))) (fun t k => XS.aload X339.here hx rfl (hb hby at_287) rfl rfl k) ?_
      obtain ⟨cq351, kq351, qa351, qb351, qc351⟩ := isOf hZ339 rfl Ex339
      obtain ⟨_, _, ⟨T351, L351, k351, n351⟩, -, X351, ⟨Lc351, hQ351, l351, yy351, zz351⟩, st351⟩ := X339.virtualBack hx (y := own_y17) (z := own_y17) ho339 (mvT hZ339 w_20) (mvT hZ339 w_21) (notFace_of_selects (args := #[]) (mvT hZ339 w_23)) (mvT hZ339 w_23) (mvT hZ339 w_22) (by decide) (backOf (W := 0) (own_ae l Z a0 hw [] b265 (8 : Int32) (8 : Int32) T339.heap n0 gp339 ge339) hZ339 w_24 w_4 (by decide) (by decide)) qa351 qc351 (g := (mkF m 289 #[iv p0, iv p1, iv (6 : Int32), iv (1 : Int32), iv (3 : Int32), rv a203, rv a247, iv (1 : Int32), rv b265, iv (2 : Int32)] [(.ref b265)])) rfl (by rw [hml]; rfl) (Steps.refl _) (argsL := []) (rest := []) (lenOf own_pd12 rfl) rfl (by show 2 * 0 + _ ≤ _; exact own_b rfl) (hb hby at_289) (fun _ _ => ⟨rfl, rfl, (own_b rfl : 15 + 0 ≤ _), (own_b rfl : 130 + 0 ≤ _)⟩)
      dsimp only [Pt.U, Pt.locs, Pt.cells, Pt.slots] at X351 l351 yy351 zz351 st351 hQ351
      obtain ⟨rfl, Nq351, eq351⟩ := hQ351
      obtain ⟨L351, X351, N351⟩ := own_absC (K := 15) (K' := 130) X351 l351 yy351 zz351 N339 Nq351
      have e351 : T351.heap = T339.heap := eq351
      refine own_tr (B := (T351.setTop (mkF m 292 #[iv p0, iv p1, iv (6 : Int32), iv (1 : Int32), iv (3 : Int32), rv a203, rv a247, iv (1 : Int32), rv b265, iv (2 : Int32)] [(.int (own_eqr (8 : Int32) (8 : Int32)))]))) st351 ?_
      rw [show own_eqr (8 : Int32) (8 : Int32) = (1 : Int32) from by decide]
      refine own_go (B := (T351.setTop (mkF m 293 #[iv p0, iv p1, iv (6 : Int32), iv (1 : Int32), iv (3 : Int32), rv a203, rv a247, iv (1 : Int32), rv b265, iv (2 : Int32)] [(.int (2 : Int32)), (.int (1 : Int32))]))) (fun t k => own_iconst (v := (2 : Int32)) X351.here hx rfl (hb hby at_292) (by decide) k) ?_
      refine own_go (B := (T351.setTop (mkF m 295 #[iv p0, iv p1, iv (6 : Int32), iv (1 : Int32), iv (3 : Int32), rv a203, rv a247, iv (1 : Int32), rv b265, iv (2 : Int32)] [(.int (3 : Int32)), (.int (2 : Int32)), (.int (1 : Int32))]))) (fun t k => XS.iload X351.here hx rfl (hb hby at_293) rfl k) ?_
      refine own_go (B := (T351.setTop (mkF m 296 #[iv p0, iv p1, iv (6 : Int32), iv (1 : Int32), iv (3 : Int32), rv a203, rv a247, iv (1 : Int32), rv b265, iv (2 : Int32)] [(.int ((2 : Int32) * (3 : Int32))), (.int (1 : Int32))]))) (fun t k => XS.imul (x := (2 : Int32)) (y := (3 : Int32)) X351.here hx rfl (hb hby at_295) rfl k) ?_
      rw [show ((2 : Int32) * (3 : Int32)) = (6 : Int32) from by decide]
      refine own_go (B := (T351.setTop (mkF m 297 #[iv p0, iv p1, iv (6 : Int32), iv (1 : Int32), iv (3 : Int32), rv a203, rv a247, iv (1 : Int32), rv b265, iv (2 : Int32)] [(.int (6 : Int32)), (.int (6 : Int32)), (.int (1 : Int32))]))) (fun t k => XS.iloadN X351.here hx rfl (hb hby at_296) rfl k) ?_
      have hc297 : (6 : Int32) = (6 : Int32) := (by decide)
      refine own_icmpN X351 hx (hb hby at_297) (pn := 300) rfl hc297 ?_
      refine own_go (B := (T351.setTop (mkF m 301 #[iv p0, iv p1, iv (6 : Int32), iv (1 : Int32), iv (3 : Int32), rv a203, rv a247, iv (1 : Int32), rv b265, iv (2 : Int32)] [(.int (1 : Int32)), (.int (1 : Int32))]))) (fun t k => own_iconst (v := (1 : Int32)) X351.here hx rfl (hb hby at_300) (by decide) k) ?_
      refine own_go (B := (T351.setTop (mkF m 305 #[iv p0, iv p1, iv (6 : Int32), iv (1 : Int32), iv (3 : Int32), rv a203, rv a247, iv (1 : Int32), rv b265, iv (2 : Int32)] [(.int (1 : Int32)), (.int (1 : Int32))]))) (fun t k => XS.goto X351.here hx rfl (pc0 := 301) (pc' := 305) rfl (hb hby at_301) (by decide) (by decide) k) ?_
      have hc305 : (1 : Int32) = (1 : Int32) := (by decide)
      refine own_icmpN X351 hx (hb hby at_305) (pn := 308) rfl hc305 ?_
      refine own_go (B := (T351.setTop (mkF m 309 #[iv p0, iv p1, iv (6 : Int32), iv (1 : Int32), iv (3 : Int32), rv a203, rv a247, iv (1 : Int32), rv b265, iv (2 : Int32)] [(.int (1 : Int32))]))) (fun t k => own_iconst (v := (1 : Int32)) X351.here hx rfl (hb hby at_308) (by decide) k) ?_
      refine own_go (B := (T351.setTop (mkF m 313 #[iv p0, iv p1, iv (6 : Int32), iv (1 : Int32), iv (3 : Int32), rv a203, rv a247, iv (1 : Int32), rv b265, iv (2 : Int32)] [(.int (1 : Int32))]))) (fun t k => XS.goto X351.here hx rfl (pc0 := 309) (pc' := 313) rfl (hb hby at_309) (by decide) (by decide) k) ?_
      refine own_go (B := (T351.setTop (mkF m 315 #[iv p0, iv p1, iv (6 : Int32), iv (1 : Int32), iv (3 : Int32), rv a203, rv a247, iv (1 : Int32), rv b265, iv (2 : Int32)] []))) (fun t k => XS.istore X351.here hx rfl (hb hby at_313) rfl (l' := #[iv p0, iv p1, iv (6 : Int32), iv (1 : Int32), iv (3 : Int32), rv a203, rv a247, iv (1 : Int32), rv b265, iv (2 : Int32)]) rfl k) ?_
      refine own_go (B := (T351.setTop (mkF m 317 #[iv p0, iv p1, iv (6 : Int32), iv (1 : Int32), iv (3 : Int32), rv a203, rv a247, iv (1 : Int32), rv b265, iv (2 : Int32)] [(.int (2 : Int32))]))) (fun t k => XS.iload X351.here hx rfl (hb hby at_315) rfl k) ?_
      refine own_go (B := (T351.setTop (mkF m 318 #[iv p0, iv p1, iv (6 : Int32), iv (1 : Int32), iv (3 : Int32), rv a203, rv a247, iv (1 : Int32), rv b265, iv (2 : Int32)] [(.int (3 : Int32)), (.int (2 : Int32))]))) (fun t k => own_iconst (v := (3 : Int32)) X351.here hx rfl (hb hby at_317) (by decide) k) ?_
      have hc318 : (2 : Int32) < (3 : Int32) := (by decide)
      refine own_icmpY X351 hx (hb hby at_318) (pc' := 360) (by decide) (by decide) hc318 ?_
      refine own_go (B := (T351.setTop (mkF m 362 #[iv p0, iv p1, iv (6 : Int32), iv (1 : Int32), iv (3 : Int32), rv a203, rv a247, iv (1 : Int32), rv b265, iv (2 : Int32)] [(.int (1 : Int32))]))) (fun t k => XS.iload X351.here hx rfl (hb hby at_360) rfl k) ?_
      exact own_retWZ X351 hx hlk hS339 (by rw [e351]; exact hk339) Bd.returns (hb hby at_362) (by decide) (own_b rfl) (own_b rfl) (Q := (own_law_Q Z p0 p1 zz zm h0 n0)) ⟨rfl, N351⟩

set_option maxRecDepth 65536 in
set_option maxHeartbeats 40000000 in
theorem own_comes {Post : Tables → Env → Array Value → State → Outcome → State → Prop} (hpost : ∀ tb e args s v u, (limb_1_1.after args s (.returned v) u = true ∧ limb_1_2.after args s (.returned v) u = true ∧ True) → ReturnedEndW s (.returned v) u (Jvm.fieldLocs frame_1_writes args s ++ Jvm.arrayLocs frame_1_arrays args s ++ Jvm.staticLocs frame_1_statics s) 32 3264 → Post tb e args s (.returned v) u) :
    ArmFor flags0 classFile x code maxLocals ret World_1 tables_1 room_1 Calls_1 rest_1 Pre_1 Post := by
  intro l hfl _ _ p e ha hc hk s m args below hf hA hF happ hP
  obtain ⟨hcalls, hrest, hpre⟩ := hP
  obtain ⟨-, -, -, hnamed, -, -, -, hat⟩ := (Spec.applies_iff hf).mp happ
  obtain ⟨hg, hn⟩ := and_e (Cond.before_iff.mp (show (Jvm.Cond.and given_1 narrow_1).before args s = true from hpre))
  obtain ⟨g0, r0⟩ := and_e hg
  obtain ⟨g1, r1⟩ := and_e r0
  obtain ⟨w0, w1, rfl⟩ : ∃ w0 w1 : Value, args = #[w0, w1] := by
    have hs : args.size = 2 := by simpa [Cond.value, given_1] using g0
    obtain ⟨L⟩ := args
    match L, hs with
    | [w0, w1], _ => exact ⟨w0, w1, rfl⟩
  have hw := fun d (hd : d ∈ tables_1) => atoms_spec (ws := Jvm.Cond.code x code maxLocals ret :: tables_1) hat d (List.mem_cons_of_mem _ hd)
  have hfit : Fit s := fun {y c} hc i hi => by
    obtain ⟨ha, rfl⟩ := Array.getElem?_eq_some_iff.mp hc
    have q := List.all_eq_true.mp ((Array.all_eq_true_iff_forall_mem.mp hF) _ (Array.getElem_mem ha)) i (List.mem_range.mpr hi)
    simpa [Array.getElem?_eq_getElem hi] using q
  obtain ⟨i0, e0⟩ := is_v g1
  obtain rfl : w0 = (.int i0) := Option.some.inj e0
  obtain ⟨i1, e1⟩ := is_v r1
  obtain rfl : w1 = (.int i1) := Option.some.inj e1
  have w_54 := hw _ (List.mem_of_getElem? (l := tables_1) (i := 54) rfl)
  obtain ⟨hsets, hown0⟩ := atoms_of _ (rest_1_c_eq ▸ (show rest_1_c.before _ s = true from hrest))
  have hs0 := hsets _ (List.mem_of_getElem? (i := 0) rfl)
  have hs1 := hsets _ (List.mem_of_getElem? (i := 1) rfl)
  have hs2 := hsets _ (List.mem_of_getElem? (i := 2) rfl)
  have hs3 := hsets _ (List.mem_of_getElem? (i := 3) rfl)
  have hs4 := hsets _ (List.mem_of_getElem? (i := 4) rfl)
  have hs5 := hsets _ (List.mem_of_getElem? (i := 5) rfl)
  have hs6 := hsets _ (List.mem_of_getElem? (i := 6) rfl)
  obtain ⟨zz, evz⟩ := exa_v (Cond.before_iff.mp hs2)
  have hZS : Sta s s.heap "java/math/BigInteger" "ZERO" "Ljava/math/BigInteger;" (.ref zz) := Sta.start evz (Or.inr ⟨w_54, hs0⟩)
  have hZE : Exa s s.heap zz "java/math/BigInteger" := Exa.start evz (Cond.before_iff.mp hs2)
  obtain ⟨zm, evm⟩ := exa_v (Cond.before_iff.mp hs5)
  have hZF : Fld s s.heap zz "java/math/BigInteger" "mag" "[I" (.ref zm) := Fld.start ((fld_at evz).symm.trans evm)
  have hZV : own_Ar s s.heap zm .int [] := own_empty evm (Cond.before_iff.mp hs4) (Cond.before_iff.mp hs6)
  obtain ⟨n, o, h1, h2, h3, _, L, rfl, ⟨rfl, N⟩, hq⟩ := own_law l s _ hw tables_1 i0 i1 zz zm s.heap s.heap.size (Nat.le_refl _) hZS hZE hZF hZV p e ha hc hk s m _ below hf ((Spec.applies_iff_loose hf).mp happ).1 ⟨rfl, State.Warmed39.refl s, rfl⟩ trivial
  refine ⟨n, _, h1, h2, h3, hpost _ _ _ _ _ _ ⟨Cond.after_iff.mpr rfl, Cond.after_iff.mpr (eq_i res_at (Term.int_eval (1)) rfl), trivial⟩ ⟨hq.1, hq.2.1, hq.2.2.1, (hq.2.2.2.sift fun y hy => Or.inr (N y hy)).mono (by decide) (by decide)⟩⟩
theorem main_1_1 : Claimed_1_1 := own_comes fun _ _ _ _ _ _ h hF => ⟨h.1, hF⟩
theorem main_1_2 : Claimed_1_2 := own_comes fun _ _ _ _ _ _ h hF => ⟨h.2.1, hF⟩
end Jvm.Pilot.@@N@@
namespace Jvm.Pilot.@@N@@
open Jvm Jvm.ClassFile Sem Op Lib Jvm.Free Jvm.Stand Jvm.Pilot.@@N@@.Jvm.D
/-! MADE BY PROGRAM (witnessworld.py) out of the Statement's table words and the real class files: 21 classes; the members and pool entries that the words name. The judged class is class 1, her method 1. -/
namespace start1
open Jvm.ClassFile
def u (s : String) : CpInfo := .utf8 (stringToUtf16 s)
/-- a pool by its gaps: so many unusable entries, then the entry; so many at the end -/
def gap : Nat → List CpInfo → List CpInfo
  | 0, r => r
  | n + 1, r => .unusable :: gap n r
def poolList (es : List (Nat × CpInfo)) (last : Nat) : List CpInfo := es.foldr (fun e r => gap e.1 (e.2 :: r)) (gap last [])
def pool (es : List (Nat × CpInfo)) (last : Nat) : Array CpInfo := ⟨poolList es last⟩
def fileOf (pool : Array CpInfo) (this : Nat) (attrs : Array Attribute := #[]) (ms : Array MethodInfo := #[]) (fl : Nat := 33) (sup : Nat := 0) (ifs : Array Nat := #[]) (fds : Array FieldInfo := #[]) : ClassFile where
  minorVersion := 0
  majorVersion := 65
  constantPool := pool
  accessFlags := fl
  thisClass := this
  superClass := sup
  interfaces := ifs
  fields := fds
  methods := ms
  attributes := attrs
def plain (name : String) (sup : Option ClassId) : Class where
  name := name
  kind := .ordinary
  loader := none
  accessFlags := 33
  super := sup
  interfaces := #[]
  cf := none
  fields := #[]
  methods := #[]
  instanceTypes := #[]
  staticTypes := #[]
  resolved := #[]
  callSites := []
  init := .initialized
  statics := none
  mirror := none

def pool0 : Array CpInfo := pool [(5, u "<init>"), (0, u "()V"), (1, .class_ 10), (1, u "java/lang/Object")] 113

def k0c0 : Code := { maxStack := 0, maxLocals := 1, code := object_method_1_code, exceptionTable := #[], attributes := #[] }
def k0m0 : Method := { name := "<init>", desc := "()V", sig := { parameters := [], returnType := none }, accessFlags := 1, code := some k0c0 }
/-- java/lang/Object -/
def k0 : Class := { plain "java/lang/Object" none with
  accessFlags := 33
  interfaces := #[]
  cf := some (fileOf pool0 8 #[] #[{ accessFlags := 1, nameIndex := 5, descriptorIndex := 6, attributes := #[] }] 33 0 #[] #[])
  fields := #[]
  methods := #[k0m0]
  instanceTypes := #[]
  staticTypes := #[]
  resolved := Array.replicate 124 none
  statics := none }

def pool1 : Array CpInfo := pool [(2, .class_ 4), (1, u "java/lang/Object"), (0, u "<init>"), (0, u "()V"), (0, .integer 2147483647), (0, .class_ 9), (0, u "com/example/honeybee/honeybee/device/DerReader"), (0, .methodref 8 11), (0, .nameAndType 5 12), (0, u "([B)V"), (0, .methodref 8 14), (0, .nameAndType 15 16), (0, u "atEnd"), (0, u "()Z"), (0, .methodref 8 18), (0, .nameAndType 19 20), (0, u "sequence"), (0, u "()Lcom/example/honeybee/honeybee/device/DerReader;"), (0, .methodref 22 23), (0, .class_ 24), (0, .nameAndType 25 26), (0, u "com/example/honeybee/honeybee/device/DerReaderAtEndPinLaw"), (0, u "readOne"), (0, u "(Lcom/example/honeybee/honeybee/device/DerReader;Z)V"), (0, .methodref 8 28), (0, .nameAndType 29 30), (0, u "integer"), (0, u "()Ljava/math/BigInteger;"), (0, .methodref 8 32), (0, .nameAndType 33 6), (0, u "nullValue"), (2, u "law"), (0, u "(II)Z")] 5

def k1m0 : Method := { name := "<init>", desc := "()V", sig := { parameters := [], returnType := none }, accessFlags := 1, code := none }
def k1c1 : Code := { maxStack := 4, maxLocals := 10, code := code, exceptionTable := #[], attributes := #[] }
def k1m1 : Method := { name := "law", desc := "(II)Z", sig := { parameters := [.int, .int], returnType := some .boolean }, accessFlags := 9, code := some k1c1 }
def k1c2 : Code := { maxStack := 1, maxLocals := 2, code := method_3_code, exceptionTable := #[], attributes := #[] }
def k1m2 : Method := { name := "readOne", desc := "(Lcom/example/honeybee/honeybee/device/DerReader;Z)V", sig := { parameters := [(.object "com/example/honeybee/honeybee/device/DerReader"), .boolean], returnType := none }, accessFlags := 10, code := some k1c2 }
/-- com/example/honeybee/honeybee/device/DerReaderAtEndPinLaw -/
def k1 : Class := { plain "com/example/honeybee/honeybee/device/DerReaderAtEndPinLaw" (some 0) with
  accessFlags := 49
  interfaces := #[]
  cf := some (fileOf pool1 22 #[] #[{ accessFlags := 1, nameIndex := 5, descriptorIndex := 6, attributes := #[] }, { accessFlags := 9, nameIndex := 36, descriptorIndex := 37, attributes := #[] }, { accessFlags := 10, nameIndex := 25, descriptorIndex := 26, attributes := #[] }] 49 2 #[] #[])
  fields := #[]
  methods := #[k1m0, k1m1, k1m2]
  instanceTypes := #[]
  staticTypes := #[]
  resolved := Array.replicate 43 none
  statics := none }

def pool2 : Array CpInfo := pool [(1, .methodref 2 3), (0, .class_ 4), (0, .nameAndType 5 6), (0, u "com/example/honeybee/honeybee/device/DerReader"), (0, u "<init>"), (0, u "([BII)V"), (0, .methodref 8 9), (0, .class_ 10), (0, .nameAndType 5 11), (0, u "java/lang/Object"), (0, u "()V"), (0, .fieldref 2 13), (0, .nameAndType 14 15), (0, u "bytes"), (0, u "[B"), (0, .fieldref 2 17), (0, .nameAndType 18 19), (0, u "position"), (0, u "I"), (0, .fieldref 2 21), (0, .nameAndType 22 19), (0, u "end"), (0, .string 24), (0, u "SEQUENCE"), (0, .methodref 2 26), (0, .nameAndType 27 28), (0, u "header"), (0, u "(ILjava/lang/String;)I"), (0, .string 30), (0, u "INTEGER"), (9, .class_ 41), (0, u "java/math/BigInteger"), (0, .methodref 43 44), (0, .class_ 45), (0, .nameAndType 46 47), (0, u "java/util/Arrays"), (0, u "copyOfRange"), (0, u "([BII)[B"), (0, .methodref 40 49), (0, .nameAndType 5 50), (0, u "([B)V"), (6, .string 58), (0, u "NULL"), (7, .long 128), (4, .long 2147483647), (11, u "OBJECT_IDENTIFIER"), (1, u "BIT_STRING"), (2, u "MAX_LENGTH_BYTES"), (3, u "sequence"), (0, u "()Lcom/example/honeybee/honeybee/device/DerReader;"), (0, u "integer"), (0, u "()Ljava/math/BigInteger;"), (4, u "nullValue"), (0, u "atEnd"), (0, u "()Z")] 25

def k2c0 : Code := { maxStack := 4, maxLocals := 2, code := prog_1_method_1_code, exceptionTable := #[], attributes := #[] }
def k2m0 : Method := { name := "<init>", desc := "([B)V", sig := { parameters := [(.array .byte)], returnType := none }, accessFlags := 0, code := some k2c0 }
def k2c1 : Code := { maxStack := 2, maxLocals := 4, code := prog_1_method_2_code, exceptionTable := #[], attributes := #[] }
def k2m1 : Method := { name := "<init>", desc := "([BII)V", sig := { parameters := [(.array .byte), .int, .int], returnType := none }, accessFlags := 2, code := some k2c1 }
def k2c2 : Code := { maxStack := 6, maxLocals := 3, code := prog_1_method_3_code, exceptionTable := #[], attributes := #[] }
def k2m2 : Method := { name := "sequence", desc := "()Lcom/example/honeybee/honeybee/device/DerReader;", sig := { parameters := [], returnType := some (.object "com/example/honeybee/honeybee/device/DerReader") }, accessFlags := 0, code := some k2c2 }
def k2c3 : Code := { maxStack := 6, maxLocals := 3, code := prog_1_method_4_code, exceptionTable := #[], attributes := #[] }
def k2m3 : Method := { name := "integer", desc := "()Ljava/math/BigInteger;", sig := { parameters := [], returnType := some (.object "java/math/BigInteger") }, accessFlags := 0, code := some k2c3 }
def k2c4 : Code := { maxStack := 3, maxLocals := 1, code := prog_1_method_7_code, exceptionTable := #[], attributes := #[] }
def k2m4 : Method := { name := "nullValue", desc := "()V", sig := { parameters := [], returnType := none }, accessFlags := 0, code := some k2c4 }
def k2c5 : Code := { maxStack := 2, maxLocals := 1, code := prog_1_method_8_code, exceptionTable := #[], attributes := #[] }
def k2m5 : Method := { name := "atEnd", desc := "()Z", sig := { parameters := [], returnType := some .boolean }, accessFlags := 0, code := some k2c5 }
def k2c6 : Code := { maxStack := 5, maxLocals := 9, code := prog_1_method_9_code, exceptionTable := #[], attributes := #[] }
def k2m6 : Method := { name := "header", desc := "(ILjava/lang/String;)I", sig := { parameters := [.int, (.object "java/lang/String")], returnType := some .int }, accessFlags := 2, code := some k2c6 }
/-- com/example/honeybee/honeybee/device/DerReader -/
def k2 : Class := { plain "com/example/honeybee/honeybee/device/DerReader" (some 0) with
  accessFlags := 48
  interfaces := #[]
  cf := some (fileOf pool2 2 #[] #[{ accessFlags := 0, nameIndex := 5, descriptorIndex := 50, attributes := #[] }, { accessFlags := 2, nameIndex := 5, descriptorIndex := 6, attributes := #[] }, { accessFlags := 0, nameIndex := 92, descriptorIndex := 93, attributes := #[] }, { accessFlags := 0, nameIndex := 94, descriptorIndex := 95, attributes := #[] }, { accessFlags := 0, nameIndex := 100, descriptorIndex := 11, attributes := #[] }, { accessFlags := 0, nameIndex := 101, descriptorIndex := 102, attributes := #[] }, { accessFlags := 2, nameIndex := 27, descriptorIndex := 28, attributes := #[] }] 48 8 #[] #[{ accessFlags := 26, nameIndex := 24, descriptorIndex := 19, attributes := #[] }, { accessFlags := 26, nameIndex := 30, descriptorIndex := 19, attributes := #[] }, { accessFlags := 26, nameIndex := 83, descriptorIndex := 19, attributes := #[] }, { accessFlags := 26, nameIndex := 85, descriptorIndex := 19, attributes := #[] }, { accessFlags := 26, nameIndex := 58, descriptorIndex := 19, attributes := #[] }, { accessFlags := 26, nameIndex := 88, descriptorIndex := 19, attributes := #[] }, { accessFlags := 18, nameIndex := 14, descriptorIndex := 15, attributes := #[] }, { accessFlags := 18, nameIndex := 22, descriptorIndex := 19, attributes := #[] }, { accessFlags := 2, nameIndex := 18, descriptorIndex := 19, attributes := #[] }])
  fields := #[{ name := "SEQUENCE", type := .int, accessFlags := 26, slot := 0, constantValue := 0 }, { name := "INTEGER", type := .int, accessFlags := 26, slot := 1, constantValue := 0 }, { name := "OBJECT_IDENTIFIER", type := .int, accessFlags := 26, slot := 2, constantValue := 0 }, { name := "BIT_STRING", type := .int, accessFlags := 26, slot := 3, constantValue := 0 }, { name := "NULL", type := .int, accessFlags := 26, slot := 4, constantValue := 0 }, { name := "MAX_LENGTH_BYTES", type := .int, accessFlags := 26, slot := 5, constantValue := 0 }, { name := "bytes", type := (.array .byte), accessFlags := 18, slot := 0, constantValue := 0 }, { name := "end", type := .int, accessFlags := 18, slot := 1, constantValue := 0 }, { name := "position", type := .int, accessFlags := 2, slot := 2, constantValue := 0 }]
  methods := #[k2m0, k2m1, k2m2, k2m3, k2m4, k2m5, k2m6]
  instanceTypes := #[(.array .byte), .int, .int]
  staticTypes := #[.int, .int, .int, .int, .int, .int]
  resolved := Array.replicate 128 none
  statics := none }

def pool3 : Array CpInfo := pool [(1, .class_ 2), (0, u "java/io/Serializable"), (0, .class_ 4), (0, u "java/lang/Object")] 2

/-- java/io/Serializable -/
def k3 : Class := { plain "java/io/Serializable" (some 0) with
  accessFlags := 1537
  interfaces := #[]
  cf := some (fileOf pool3 1 #[] #[] 1537 3 #[] #[])
  fields := #[]
  methods := #[]
  instanceTypes := #[]
  staticTypes := #[]
  resolved := Array.replicate 7 none
  statics := none }

def pool4 : Array CpInfo := pool [(1, .class_ 2), (0, u "java/lang/Comparable"), (0, .class_ 4), (0, u "java/lang/Object")] 7

/-- java/lang/Comparable -/
def k4 : Class := { plain "java/lang/Comparable" (some 0) with
  accessFlags := 1537
  interfaces := #[]
  cf := some (fileOf pool4 1 #[] #[] 1537 3 #[] #[])
  fields := #[]
  methods := #[]
  instanceTypes := #[]
  staticTypes := #[]
  resolved := Array.replicate 12 none
  statics := none }

def pool5 : Array CpInfo := pool [(2, .class_ 4), (1, u "java/lang/CharSequence"), (42, .class_ 48), (0, u "java/lang/CharSequence$1CodePointIterator"), (10, .class_ 60), (0, u "java/lang/CharSequence$1CharIterator"), (5, .class_ 67), (0, u "java/lang/Object")] 63

/-- java/lang/CharSequence -/
def k5 : Class := { plain "java/lang/CharSequence" (some 0) with
  accessFlags := 1537
  interfaces := #[]
  cf := some (fileOf pool5 2 #[.nestMembers #[47, 59]] #[] 1537 66 #[] #[])
  fields := #[]
  methods := #[]
  instanceTypes := #[]
  staticTypes := #[]
  resolved := Array.replicate 131 none
  statics := none }

def pool6 : Array CpInfo := pool [(1, .class_ 2), (0, u "java/lang/constant/Constable"), (0, .class_ 4), (0, u "java/lang/Object")] 6

/-- java/lang/constant/Constable -/
def k6 : Class := { plain "java/lang/constant/Constable" (some 0) with
  accessFlags := 1537
  interfaces := #[]
  cf := some (fileOf pool6 1 #[] #[] 1537 3 #[] #[])
  fields := #[]
  methods := #[]
  instanceTypes := #[]
  staticTypes := #[]
  resolved := Array.replicate 11 none
  statics := none }

def pool7 : Array CpInfo := pool [(1, .class_ 2), (0, u "java/lang/constant/ConstantDesc"), (0, .class_ 4), (0, u "java/lang/Object")] 32

/-- java/lang/constant/ConstantDesc -/
def k7 : Class := { plain "java/lang/constant/ConstantDesc" (some 0) with
  accessFlags := 1537
  interfaces := #[]
  cf := some (fileOf pool7 1 #[] #[] 1537 3 #[] #[])
  fields := #[]
  methods := #[]
  instanceTypes := #[]
  staticTypes := #[]
  resolved := Array.replicate 37 none
  statics := none }

def pool8 : Array CpInfo := pool [(2, .class_ 4), (1, u "java/lang/Object"), (0, u "<init>"), (0, u "()V"), (3, .class_ 12), (1, u "java/lang/String"), (0, u "value"), (0, u "[B"), (2, u "coder"), (0, u "B"), (2, u "hash"), (0, u "I"), (2, u "hashIsZero"), (0, u "Z"), (13, u "COMPACT_STRINGS"), (534, .class_ 576), (0, u "java/lang/CharSequence"), (22, u "CASE_INSENSITIVE_ORDER"), (0, u "Ljava/util/Comparator;"), (500, u "serialPersistentFields"), (0, u "[Ljava/io/ObjectStreamField;"), (0, .class_ 1104), (0, u "java/lang/String$CaseInsensitiveComparator"), (1, .class_ 1107), (0, u "java/io/Serializable"), (0, .class_ 1109), (0, u "java/lang/Comparable"), (0, .class_ 1111), (0, u "java/lang/constant/Constable"), (0, .class_ 1113), (0, u "java/lang/constant/ConstantDesc"), (2, u "serialVersionUID"), (0, u "J"), (3, u "REPL"), (0, u "C"), (2, u "LATIN1"), (1, u "UTF16")] 323

def k8m0 : Method := { name := "<init>", desc := "()V", sig := { parameters := [], returnType := none }, accessFlags := 1, code := none }
/-- java/lang/String -/
def k8 : Class := { plain "java/lang/String" (some 0) with
  accessFlags := 49
  interfaces := #[3, 4, 5, 6, 7]
  cf := some (fileOf pool8 10 #[.nestMembers #[1103]] #[{ accessFlags := 1, nameIndex := 5, descriptorIndex := 6, attributes := #[] }] 49 2 #[1106, 1108, 575, 1110, 1112] #[{ accessFlags := 18, nameIndex := 13, descriptorIndex := 14, attributes := #[] }, { accessFlags := 18, nameIndex := 17, descriptorIndex := 18, attributes := #[] }, { accessFlags := 2, nameIndex := 21, descriptorIndex := 22, attributes := #[] }, { accessFlags := 2, nameIndex := 25, descriptorIndex := 26, attributes := #[] }, { accessFlags := 26, nameIndex := 1116, descriptorIndex := 1117, attributes := #[] }, { accessFlags := 24, nameIndex := 40, descriptorIndex := 26, attributes := #[] }, { accessFlags := 26, nameIndex := 1101, descriptorIndex := 1102, attributes := #[] }, { accessFlags := 26, nameIndex := 1121, descriptorIndex := 1122, attributes := #[] }, { accessFlags := 25, nameIndex := 599, descriptorIndex := 600, attributes := #[] }, { accessFlags := 24, nameIndex := 1125, descriptorIndex := 18, attributes := #[] }, { accessFlags := 24, nameIndex := 1127, descriptorIndex := 18, attributes := #[] }])
  fields := #[{ name := "value", type := (.array .byte), accessFlags := 18, slot := 0, constantValue := 0 }, { name := "coder", type := .byte, accessFlags := 18, slot := 1, constantValue := 0 }, { name := "hash", type := .int, accessFlags := 2, slot := 2, constantValue := 0 }, { name := "hashIsZero", type := .boolean, accessFlags := 2, slot := 3, constantValue := 0 }, { name := "serialVersionUID", type := .long, accessFlags := 26, slot := 0, constantValue := 0 }, { name := "COMPACT_STRINGS", type := .boolean, accessFlags := 24, slot := 1, constantValue := 0 }, { name := "serialPersistentFields", type := (.array (.object "java/io/ObjectStreamField")), accessFlags := 26, slot := 2, constantValue := 0 }, { name := "REPL", type := .char, accessFlags := 26, slot := 3, constantValue := 0 }, { name := "CASE_INSENSITIVE_ORDER", type := (.object "java/util/Comparator"), accessFlags := 25, slot := 4, constantValue := 0 }, { name := "LATIN1", type := .byte, accessFlags := 24, slot := 5, constantValue := 0 }, { name := "UTF16", type := .byte, accessFlags := 24, slot := 6, constantValue := 0 }]
  methods := #[k8m0]
  instanceTypes := #[(.array .byte), .byte, .int, .boolean]
  staticTypes := #[.long, .boolean, (.array (.object "java/io/ObjectStreamField")), .char, (.object "java/util/Comparator"), .byte, .byte]
  resolved := Array.replicate 1451 none
  statics := none }

def pool9 : Array CpInfo := pool [(1, .methodref 2 3), (0, .class_ 4), (0, .nameAndType 5 6), (0, u "java/lang/Object"), (0, u "<init>"), (0, u "()V"), (1, .class_ 10), (1, u "java/lang/Number"), (2, .class_ 14), (0, u "java/io/Serializable"), (0, u "serialVersionUID"), (0, u "J")] 20

def k9c0 : Code := { maxStack := 1, maxLocals := 1, code := jdk_18_method_1_code, exceptionTable := #[], attributes := #[] }
def k9m0 : Method := { name := "<init>", desc := "()V", sig := { parameters := [], returnType := none }, accessFlags := 1, code := some k9c0 }
/-- java/lang/Number -/
def k9 : Class := { plain "java/lang/Number" (some 0) with
  accessFlags := 1057
  interfaces := #[3]
  cf := some (fileOf pool9 8 #[] #[{ accessFlags := 1, nameIndex := 5, descriptorIndex := 6, attributes := #[] }] 1057 2 #[13] #[{ accessFlags := 26, nameIndex := 15, descriptorIndex := 16, attributes := #[] }])
  fields := #[{ name := "serialVersionUID", type := .long, accessFlags := 26, slot := 0, constantValue := 0 }]
  methods := #[k9m0]
  instanceTypes := #[]
  staticTypes := #[.long]
  resolved := Array.replicate 37 none
  statics := none }

def pool10 : Array CpInfo := pool [(3, .methodref 4 5), (0, .class_ 6), (0, .nameAndType 7 8), (0, u "java/lang/Number"), (0, u "<init>"), (0, u "()V"), (7, .methodref 17 18), (0, .class_ 19), (0, .nameAndType 20 21), (0, u "java/util/Objects"), (0, u "checkFromIndexSize"), (0, u "(III)I"), (0, .fieldref 23 24), (0, .class_ 25), (0, .nameAndType 26 27), (0, u "java/math/BigInteger"), (0, u "ZERO"), (0, u "Ljava/math/BigInteger;"), (0, .fieldref 23 29), (0, .nameAndType 30 31), (0, u "mag"), (0, u "[I"), (0, .fieldref 23 33), (0, .nameAndType 34 35), (0, u "signum"), (0, u "I"), (0, .methodref 23 37), (0, .nameAndType 38 39), (0, u "makePositive"), (0, u "(I[BII)[I"), (0, .methodref 23 41), (0, .nameAndType 42 39), (0, u "stripLeadingZeroBytes"), (0, .integer 67108864), (3, .methodref 23 48), (0, .nameAndType 7 49), (0, u "([BII)V"), (45, u "bitsPerDigit"), (0, u "[J"), (9, u "digitsPerInt"), (12, u "intRadix"), (39, u "([B)V"), (20, u "SMALL_PRIME_PRODUCT"), (79, u "ONE"), (6, u "TWO"), (43, u "$assertionsDisabled"), (0, u "Z"), (36, u "posConst"), (0, u "[Ljava/math/BigInteger;"), (4, u "negConst"), (116, .class_ 474), (1, u "java/math/BigInteger$RecursiveOp"), (106, u "NEGATIVE_ONE"), (91, u "bnExpModThreshTable"), (72, u "lowestSetBitPlusTwo"), (2, u "bitLengthPlusOne"), (2, u "bitCountPlusOne"), (6, u "LOG_TWO"), (0, u "D"), (2, u "logCache"), (0, u "[D"), (13, u "NUM_ZEROS"), (2, u "ZEROS"), (0, u "Ljava/lang/String;"), (9, u "longRadix"), (5, u "digitsPerLong"), (22, u "powerCache"), (0, u "[[Ljava/math/BigInteger;"), (45, u "firstNonzeroIntNumPlusTwo"), (38, .class_ 909), (1, u "java/math/BigInteger$UnsafeHolder"), (141, u "TEN"), (106, u "serialPersistentFields"), (0, u "[Ljava/io/ObjectStreamField;"), (0, .class_ 1161), (0, u "java/lang/Comparable"), (0, u "LONG_MASK"), (0, u "J"), (1, u "MAX_MAG_LENGTH"), (0, u "PRIME_SEARCH_BIT_LENGTH_LIMIT"), (1, u "KARATSUBA_THRESHOLD"), (1, u "TOOM_COOK_THRESHOLD"), (1, u "KARATSUBA_SQUARE_THRESHOLD"), (1, u "TOOM_COOK_SQUARE_THRESHOLD"), (1, u "BURNIKEL_ZIEGLER_THRESHOLD"), (0, u "BURNIKEL_ZIEGLER_OFFSET"), (1, u "SCHOENHAGE_BASE_CONVERSION_THRESHOLD"), (1, u "MULTIPLY_SQUARE_THRESHOLD"), (0, u "MONTGOMERY_INTRINSIC_THRESHOLD"), (1, u "SMALL_PRIME_THRESHOLD"), (1, u "DEFAULT_PRIME_CERTAINTY"), (1, u "MAX_CONSTANT"), (3, u "serialVersionUID"), (338, .class_ 1532), (0, u "java/math/BigInteger$RecursiveOp$RecursiveSquare"), (0, .class_ 1534), (0, u "java/math/BigInteger$RecursiveOp$RecursiveMultiply")] 7

def k10c0 : Code := { maxStack := 5, maxLocals := 5, code := jdk_2097_method_1_code, exceptionTable := #[], attributes := #[] }
def k10m0 : Method := { name := "<init>", desc := "([BII)V", sig := { parameters := [(.array .byte), .int, .int], returnType := none }, accessFlags := 1, code := some k10c0 }
def k10c1 : Code := { maxStack := 4, maxLocals := 2, code := jdk_2097_method_2_code, exceptionTable := #[], attributes := #[] }
def k10m1 : Method := { name := "<init>", desc := "([B)V", sig := { parameters := [(.array .byte)], returnType := none }, accessFlags := 1, code := some k10c1 }
def k10c2 : Code := { maxStack := 5, maxLocals := 8, code := jdk_2097_method_142_code, exceptionTable := #[], attributes := #[] }
def k10m2 : Method := { name := "stripLeadingZeroBytes", desc := "(I[BII)[I", sig := { parameters := [.int, (.array .byte), .int, .int], returnType := some (.array .int) }, accessFlags := 10, code := some k10c2 }
def k10c3 : Code := { maxStack := 5, maxLocals := 11, code := jdk_2097_method_143_code, exceptionTable := #[], attributes := #[] }
def k10m3 : Method := { name := "makePositive", desc := "(I[BII)[I", sig := { parameters := [.int, (.array .byte), .int, .int], returnType := some (.array .int) }, accessFlags := 10, code := some k10c3 }
/-- java/math/BigInteger -/
def k10 : Class := { plain "java/math/BigInteger" (some 9) with
  accessFlags := 33
  interfaces := #[4]
  cf := some (fileOf pool10 23 #[.nestMembers #[907, 472, 1531, 1533]] #[{ accessFlags := 1, nameIndex := 7, descriptorIndex := 49, attributes := #[] }, { accessFlags := 1, nameIndex := 7, descriptorIndex := 159, attributes := #[] }, { accessFlags := 10, nameIndex := 42, descriptorIndex := 39, attributes := #[] }, { accessFlags := 10, nameIndex := 38, descriptorIndex := 39, attributes := #[] }] 33 4 #[1160] #[{ accessFlags := 16, nameIndex := 34, descriptorIndex := 35, attributes := #[] }, { accessFlags := 16, nameIndex := 30, descriptorIndex := 31, attributes := #[] }, { accessFlags := 2, nameIndex := 752, descriptorIndex := 35, attributes := #[] }, { accessFlags := 2, nameIndex := 749, descriptorIndex := 35, attributes := #[] }, { accessFlags := 2, nameIndex := 746, descriptorIndex := 35, attributes := #[] }, { accessFlags := 2, nameIndex := 868, descriptorIndex := 35, attributes := #[] }, { accessFlags := 24, nameIndex := 1162, descriptorIndex := 1163, attributes := #[] }, { accessFlags := 26, nameIndex := 1165, descriptorIndex := 35, attributes := #[] }, { accessFlags := 26, nameIndex := 1166, descriptorIndex := 35, attributes := #[] }, { accessFlags := 26, nameIndex := 1168, descriptorIndex := 35, attributes := #[] }, { accessFlags := 26, nameIndex := 1170, descriptorIndex := 35, attributes := #[] }, { accessFlags := 26, nameIndex := 1172, descriptorIndex := 35, attributes := #[] }, { accessFlags := 26, nameIndex := 1174, descriptorIndex := 35, attributes := #[] }, { accessFlags := 24, nameIndex := 1176, descriptorIndex := 35, attributes := #[] }, { accessFlags := 24, nameIndex := 1177, descriptorIndex := 35, attributes := #[] }, { accessFlags := 26, nameIndex := 1179, descriptorIndex := 35, attributes := #[] }, { accessFlags := 26, nameIndex := 1181, descriptorIndex := 35, attributes := #[] }, { accessFlags := 26, nameIndex := 1182, descriptorIndex := 35, attributes := #[] }, { accessFlags := 10, nameIndex := 95, descriptorIndex := 96, attributes := #[] }, { accessFlags := 26, nameIndex := 1184, descriptorIndex := 35, attributes := #[] }, { accessFlags := 26, nameIndex := 1186, descriptorIndex := 35, attributes := #[] }, { accessFlags := 26, nameIndex := 180, descriptorIndex := 27, attributes := #[] }, { accessFlags := 26, nameIndex := 1188, descriptorIndex := 35, attributes := #[] }, { accessFlags := 26, nameIndex := 349, descriptorIndex := 350, attributes := #[] }, { accessFlags := 26, nameIndex := 355, descriptorIndex := 350, attributes := #[] }, { accessFlags := 74, nameIndex := 821, descriptorIndex := 822, attributes := #[] }, { accessFlags := 26, nameIndex := 763, descriptorIndex := 764, attributes := #[] }, { accessFlags := 26, nameIndex := 759, descriptorIndex := 760, attributes := #[] }, { accessFlags := 25, nameIndex := 26, descriptorIndex := 27, attributes := #[] }, { accessFlags := 25, nameIndex := 260, descriptorIndex := 27, attributes := #[] }, { accessFlags := 25, nameIndex := 267, descriptorIndex := 27, attributes := #[] }, { accessFlags := 26, nameIndex := 581, descriptorIndex := 27, attributes := #[] }, { accessFlags := 25, nameIndex := 1051, descriptorIndex := 27, attributes := #[] }, { accessFlags := 8, nameIndex := 673, descriptorIndex := 31, attributes := #[] }, { accessFlags := 10, nameIndex := 778, descriptorIndex := 35, attributes := #[] }, { accessFlags := 26, nameIndex := 781, descriptorIndex := 782, attributes := #[] }, { accessFlags := 10, nameIndex := 798, descriptorIndex := 31, attributes := #[] }, { accessFlags := 10, nameIndex := 792, descriptorIndex := 350, attributes := #[] }, { accessFlags := 10, nameIndex := 106, descriptorIndex := 31, attributes := #[] }, { accessFlags := 10, nameIndex := 119, descriptorIndex := 31, attributes := #[] }, { accessFlags := 26, nameIndex := 1192, descriptorIndex := 1163, attributes := #[] }, { accessFlags := 26, nameIndex := 1158, descriptorIndex := 1159, attributes := #[] }, { accessFlags := 4120, nameIndex := 311, descriptorIndex := 312, attributes := #[] }])
  fields := #[{ name := "signum", type := .int, accessFlags := 16, slot := 0, constantValue := 0 }, { name := "mag", type := (.array .int), accessFlags := 16, slot := 1, constantValue := 0 }, { name := "bitCountPlusOne", type := .int, accessFlags := 2, slot := 2, constantValue := 0 }, { name := "bitLengthPlusOne", type := .int, accessFlags := 2, slot := 3, constantValue := 0 }, { name := "lowestSetBitPlusTwo", type := .int, accessFlags := 2, slot := 4, constantValue := 0 }, { name := "firstNonzeroIntNumPlusTwo", type := .int, accessFlags := 2, slot := 5, constantValue := 0 }, { name := "LONG_MASK", type := .long, accessFlags := 24, slot := 0, constantValue := 0 }, { name := "MAX_MAG_LENGTH", type := .int, accessFlags := 26, slot := 1, constantValue := 0 }, { name := "PRIME_SEARCH_BIT_LENGTH_LIMIT", type := .int, accessFlags := 26, slot := 2, constantValue := 0 }, { name := "KARATSUBA_THRESHOLD", type := .int, accessFlags := 26, slot := 3, constantValue := 0 }, { name := "TOOM_COOK_THRESHOLD", type := .int, accessFlags := 26, slot := 4, constantValue := 0 }, { name := "KARATSUBA_SQUARE_THRESHOLD", type := .int, accessFlags := 26, slot := 5, constantValue := 0 }, { name := "TOOM_COOK_SQUARE_THRESHOLD", type := .int, accessFlags := 26, slot := 6, constantValue := 0 }, { name := "BURNIKEL_ZIEGLER_THRESHOLD", type := .int, accessFlags := 24, slot := 7, constantValue := 0 }, { name := "BURNIKEL_ZIEGLER_OFFSET", type := .int, accessFlags := 24, slot := 8, constantValue := 0 }, { name := "SCHOENHAGE_BASE_CONVERSION_THRESHOLD", type := .int, accessFlags := 26, slot := 9, constantValue := 0 }, { name := "MULTIPLY_SQUARE_THRESHOLD", type := .int, accessFlags := 26, slot := 10, constantValue := 0 }, { name := "MONTGOMERY_INTRINSIC_THRESHOLD", type := .int, accessFlags := 26, slot := 11, constantValue := 0 }, { name := "bitsPerDigit", type := (.array .long), accessFlags := 10, slot := 12, constantValue := 0 }, { name := "SMALL_PRIME_THRESHOLD", type := .int, accessFlags := 26, slot := 13, constantValue := 0 }, { name := "DEFAULT_PRIME_CERTAINTY", type := .int, accessFlags := 26, slot := 14, constantValue := 0 }, { name := "SMALL_PRIME_PRODUCT", type := (.object "java/math/BigInteger"), accessFlags := 26, slot := 15, constantValue := 0 }, { name := "MAX_CONSTANT", type := .int, accessFlags := 26, slot := 16, constantValue := 0 }, { name := "posConst", type := (.array (.object "java/math/BigInteger")), accessFlags := 26, slot := 17, constantValue := 0 }, { name := "negConst", type := (.array (.object "java/math/BigInteger")), accessFlags := 26, slot := 18, constantValue := 0 }, { name := "powerCache", type := (.array (.array (.object "java/math/BigInteger"))), accessFlags := 74, slot := 19, constantValue := 0 }, { name := "logCache", type := (.array .double), accessFlags := 26, slot := 20, constantValue := 0 }, { name := "LOG_TWO", type := .double, accessFlags := 26, slot := 21, constantValue := 0 }, { name := "ZERO", type := (.object "java/math/BigInteger"), accessFlags := 25, slot := 22, constantValue := 0 }, { name := "ONE", type := (.object "java/math/BigInteger"), accessFlags := 25, slot := 23, constantValue := 0 }, { name := "TWO", type := (.object "java/math/BigInteger"), accessFlags := 25, slot := 24, constantValue := 0 }, { name := "NEGATIVE_ONE", type := (.object "java/math/BigInteger"), accessFlags := 26, slot := 25, constantValue := 0 }, { name := "TEN", type := (.object "java/math/BigInteger"), accessFlags := 25, slot := 26, constantValue := 0 }, { name := "bnExpModThreshTable", type := (.array .int), accessFlags := 8, slot := 27, constantValue := 0 }, { name := "NUM_ZEROS", type := .int, accessFlags := 10, slot := 28, constantValue := 0 }, { name := "ZEROS", type := (.object "java/lang/String"), accessFlags := 26, slot := 29, constantValue := 0 }, { name := "digitsPerLong", type := (.array .int), accessFlags := 10, slot := 30, constantValue := 0 }, { name := "longRadix", type := (.array (.object "java/math/BigInteger")), accessFlags := 10, slot := 31, constantValue := 0 }, { name := "digitsPerInt", type := (.array .int), accessFlags := 10, slot := 32, constantValue := 0 }, { name := "intRadix", type := (.array .int), accessFlags := 10, slot := 33, constantValue := 0 }, { name := "serialVersionUID", type := .long, accessFlags := 26, slot := 34, constantValue := 0 }, { name := "serialPersistentFields", type := (.array (.object "java/io/ObjectStreamField")), accessFlags := 26, slot := 35, constantValue := 0 }, { name := "$assertionsDisabled", type := .boolean, accessFlags := 4120, slot := 36, constantValue := 0 }]
  methods := #[k10m0, k10m1, k10m2, k10m3]
  instanceTypes := #[.int, (.array .int), .int, .int, .int, .int]
  staticTypes := #[.long, .int, .int, .int, .int, .int, .int, .int, .int, .int, .int, .int, (.array .long), .int, .int, (.object "java/math/BigInteger"), .int, (.array (.object "java/math/BigInteger")), (.array (.object "java/math/BigInteger")), (.array (.array (.object "java/math/BigInteger"))), (.array .double), .double, (.object "java/math/BigInteger"), (.object "java/math/BigInteger"), (.object "java/math/BigInteger"), (.object "java/math/BigInteger"), (.object "java/math/BigInteger"), (.array .int), .int, (.object "java/lang/String"), (.array .int), (.array (.object "java/math/BigInteger")), (.array .int), (.array .int), .long, (.array (.object "java/io/ObjectStreamField")), .boolean]
  resolved := Array.replicate 1542 none
  statics := some 0 }

def pool11 : Array CpInfo := pool [(2, .class_ 4), (1, u "java/lang/Object"), (0, u "<init>"), (0, u "()V"), (7, .class_ 16), (1, u "java/util/Arrays"), (57, .class_ 76), (1, u "java/util/Arrays$NaturalOrder"), (36, .class_ 115), (1, u "java/util/Arrays$LegacyMergeSort"), (1, u "Z"), (21, u "copyOfRange"), (10, .methodref 151 152), (0, .class_ 153), (0, .nameAndType 154 155), (0, u "java/lang/System"), (0, u "arraycopy"), (0, u "(Ljava/lang/Object;ILjava/lang/Object;II)V"), (148, .methodref 305 306), (0, .class_ 307), (0, .nameAndType 308 309), (0, u "java/lang/Math"), (0, u "min"), (0, u "(II)I"), (29, .methodref 14 340), (0, .nameAndType 341 342), (0, u "copyOfRangeByte"), (0, u "([BII)[B"), (0, .methodref 14 344), (0, .nameAndType 345 346), (0, u "checkLength"), (0, u "(II)V"), (28, .class_ 376), (0, u "java/util/Arrays$ArrayList"), (68, u "$assertionsDisabled"), (269, u "MIN_ARRAY_SORT_GRAN"), (0, u "I"), (2, u "INSERTIONSORT_THRESHOLD"), (255, .class_ 976), (0, u "java/util/Arrays$ArrayItr")] 52

def k11m0 : Method := { name := "<init>", desc := "()V", sig := { parameters := [], returnType := none }, accessFlags := 2, code := none }
def k11c1 : Code := { maxStack := 4, maxLocals := 2, code := jdk_65_method_131_code, exceptionTable := #[], attributes := #[] }
def k11m1 : Method := { name := "checkLength", desc := "(II)V", sig := { parameters := [.int, .int], returnType := none }, accessFlags := 10, code := some k11c1 }
def k11c2 : Code := { maxStack := 3, maxLocals := 3, code := jdk_65_method_132_code, exceptionTable := #[], attributes := #[] }
def k11m2 : Method := { name := "copyOfRange", desc := "([BII)[B", sig := { parameters := [(.array .byte), .int, .int], returnType := some (.array .byte) }, accessFlags := 9, code := some k11c2 }
def k11c3 : Code := { maxStack := 6, maxLocals := 5, code := jdk_65_method_133_code, exceptionTable := #[], attributes := #[] }
def k11m3 : Method := { name := "copyOfRangeByte", desc := "([BII)[B", sig := { parameters := [(.array .byte), .int, .int], returnType := some (.array .byte) }, accessFlags := 10, code := some k11c3 }
/-- java/util/Arrays -/
def k11 : Class := { plain "java/util/Arrays" (some 0) with
  accessFlags := 49
  interfaces := #[]
  cf := some (fileOf pool11 14 #[.nestMembers #[975, 375, 113, 74]] #[{ accessFlags := 2, nameIndex := 5, descriptorIndex := 6, attributes := #[] }, { accessFlags := 10, nameIndex := 345, descriptorIndex := 346, attributes := #[] }, { accessFlags := 9, nameIndex := 139, descriptorIndex := 342, attributes := #[] }, { accessFlags := 10, nameIndex := 341, descriptorIndex := 342, attributes := #[] }] 49 2 #[] #[{ accessFlags := 26, nameIndex := 715, descriptorIndex := 716, attributes := #[] }, { accessFlags := 26, nameIndex := 719, descriptorIndex := 716, attributes := #[] }, { accessFlags := 4120, nameIndex := 445, descriptorIndex := 117, attributes := #[] }])
  fields := #[{ name := "MIN_ARRAY_SORT_GRAN", type := .int, accessFlags := 26, slot := 0, constantValue := 0 }, { name := "INSERTIONSORT_THRESHOLD", type := .int, accessFlags := 26, slot := 1, constantValue := 0 }, { name := "$assertionsDisabled", type := .boolean, accessFlags := 4120, slot := 2, constantValue := 0 }]
  methods := #[k11m0, k11m1, k11m2, k11m3]
  instanceTypes := #[]
  staticTypes := #[.int, .int, .boolean]
  resolved := Array.replicate 1029 none
  statics := none }

def pool12 : Array CpInfo := pool [(1, .class_ 2), (0, u "java/lang/Math"), (1, .class_ 6), (1, u "java/lang/Object"), (0, u "<init>"), (0, u "()V"), (89, .class_ 100), (1, u "java/lang/Math$RandomNumberGeneratorHolder"), (71, u "negativeZeroFloatBits"), (0, u "J"), (2, u "negativeZeroDoubleBits"), (24, u "min"), (43, u "$assertionsDisabled"), (0, u "Z"), (88, u "(II)I"), (2, u "twoToTheDoubleScaleDown"), (0, u "D"), (4, u "twoToTheDoubleScaleUp"), (9, u "E"), (3, u "PI"), (2, u "TAU"), (2, u "DEGREES_TO_RADIANS"), (0, u "RADIANS_TO_DEGREES")] 94

def k12m0 : Method := { name := "<init>", desc := "()V", sig := { parameters := [], returnType := none }, accessFlags := 2, code := none }
def k12c1 : Code := { maxStack := 2, maxLocals := 2, code := jdk_29_method_69_code, exceptionTable := #[], attributes := #[] }
def k12m1 : Method := { name := "min", desc := "(II)I", sig := { parameters := [.int, .int], returnType := some .int }, accessFlags := 9, code := some k12c1 }
/-- java/lang/Math -/
def k12 : Class := { plain "java/lang/Math" (some 0) with
  accessFlags := 49
  interfaces := #[]
  cf := some (fileOf pool12 1 #[.nestMembers #[98]] #[{ accessFlags := 2, nameIndex := 7, descriptorIndex := 8, attributes := #[] }, { accessFlags := 9, nameIndex := 201, descriptorIndex := 335, attributes := #[] }] 49 4 #[] #[{ accessFlags := 25, nameIndex := 354, descriptorIndex := 339, attributes := #[] }, { accessFlags := 25, nameIndex := 358, descriptorIndex := 339, attributes := #[] }, { accessFlags := 25, nameIndex := 361, descriptorIndex := 339, attributes := #[] }, { accessFlags := 26, nameIndex := 364, descriptorIndex := 339, attributes := #[] }, { accessFlags := 26, nameIndex := 365, descriptorIndex := 339, attributes := #[] }, { accessFlags := 26, nameIndex := 172, descriptorIndex := 173, attributes := #[] }, { accessFlags := 26, nameIndex := 176, descriptorIndex := 173, attributes := #[] }, { accessFlags := 8, nameIndex := 344, descriptorIndex := 339, attributes := #[] }, { accessFlags := 8, nameIndex := 338, descriptorIndex := 339, attributes := #[] }, { accessFlags := 4120, nameIndex := 245, descriptorIndex := 246, attributes := #[] }])
  fields := #[{ name := "E", type := .double, accessFlags := 25, slot := 0, constantValue := 0 }, { name := "PI", type := .double, accessFlags := 25, slot := 1, constantValue := 0 }, { name := "TAU", type := .double, accessFlags := 25, slot := 2, constantValue := 0 }, { name := "DEGREES_TO_RADIANS", type := .double, accessFlags := 26, slot := 3, constantValue := 0 }, { name := "RADIANS_TO_DEGREES", type := .double, accessFlags := 26, slot := 4, constantValue := 0 }, { name := "negativeZeroFloatBits", type := .long, accessFlags := 26, slot := 5, constantValue := 0 }, { name := "negativeZeroDoubleBits", type := .long, accessFlags := 26, slot := 6, constantValue := 0 }, { name := "twoToTheDoubleScaleUp", type := .double, accessFlags := 8, slot := 7, constantValue := 0 }, { name := "twoToTheDoubleScaleDown", type := .double, accessFlags := 8, slot := 8, constantValue := 0 }, { name := "$assertionsDisabled", type := .boolean, accessFlags := 4120, slot := 9, constantValue := 0 }]
  methods := #[k12m0, k12m1]
  instanceTypes := #[]
  staticTypes := #[.double, .double, .double, .double, .double, .long, .long, .double, .double, .boolean]
  resolved := Array.replicate 460 none
  statics := none }

def pool13 : Array CpInfo := pool [(2, .class_ 4), (1, u "java/lang/Object"), (0, u "<init>"), (0, u "()V"), (1, .class_ 10), (1, u "java/lang/System"), (0, u "allowSecurityManager"), (0, u "I"), (16, u "cons"), (0, u "Ljava/io/Console;"), (77, .class_ 110), (1, u "java/lang/System$CallersHolder"), (43, u "initialErrStream"), (0, u "Ljava/io/PrintStream;"), (19, u "security"), (0, u "Ljava/lang/SecurityManager;"), (31, .class_ 209), (0, u "java/lang/System$1"), (7, u "props"), (0, u "Ljava/util/Properties;"), (2, u "lineSeparator"), (0, u "Ljava/lang/String;"), (96, .class_ 321), (1, u "java/lang/System$LoggerFinder"), (5, .class_ 328), (0, u "java/lang/System$Logger"), (67, u "err"), (2, u "out"), (91, u "notSupportedJnuEncoding"), (15, u "in"), (17, u "initialIn"), (0, u "Ljava/io/InputStream;"), (35, u "bootLayer"), (0, u "Ljava/lang/ModuleLayer;"), (99, .class_ 664), (0, u "java/lang/System$2"), (9, u "NEVER"), (2, u "MAYBE"), (49, u "arraycopy"), (0, u "(Ljava/lang/Object;ILjava/lang/Object;II)V"), (72, .class_ 802), (0, u "java/lang/System$Logger$Level")] 31

def k13m0 : Method := { name := "<init>", desc := "()V", sig := { parameters := [], returnType := none }, accessFlags := 2, code := none }
def k13m1 : Method := { name := "arraycopy", desc := "(Ljava/lang/Object;ILjava/lang/Object;II)V", sig := { parameters := [(.object "java/lang/Object"), .int, (.object "java/lang/Object"), .int, .int], returnType := none }, accessFlags := 265, code := none }
/-- java/lang/System -/
def k13 : Class := { plain "java/lang/System" (some 0) with
  accessFlags := 49
  interfaces := #[]
  cf := some (fileOf pool13 8 #[.nestMembers #[319, 327, 801, 108, 663, 208]] #[{ accessFlags := 2, nameIndex := 5, descriptorIndex := 6, attributes := #[] }, { accessFlags := 265, nameIndex := 727, descriptorIndex := 728, attributes := #[] }] 49 2 #[] #[{ accessFlags := 25, nameIndex := 507, descriptorIndex := 526, attributes := #[] }, { accessFlags := 25, nameIndex := 399, descriptorIndex := 155, attributes := #[] }, { accessFlags := 25, nameIndex := 396, descriptorIndex := 155, attributes := #[] }, { accessFlags := 10, nameIndex := 525, descriptorIndex := 526, attributes := #[] }, { accessFlags := 26, nameIndex := 674, descriptorIndex := 12, attributes := #[] }, { accessFlags := 26, nameIndex := 677, descriptorIndex := 12, attributes := #[] }, { accessFlags := 10, nameIndex := 11, descriptorIndex := 12, attributes := #[] }, { accessFlags := 74, nameIndex := 175, descriptorIndex := 176, attributes := #[] }, { accessFlags := 10, nameIndex := 491, descriptorIndex := 222, attributes := #[] }, { accessFlags := 74, nameIndex := 29, descriptorIndex := 30, attributes := #[] }, { accessFlags := 74, nameIndex := 154, descriptorIndex := 155, attributes := #[] }, { accessFlags := 10, nameIndex := 217, descriptorIndex := 218, attributes := #[] }, { accessFlags := 10, nameIndex := 221, descriptorIndex := 222, attributes := #[] }, { accessFlags := 8, nameIndex := 562, descriptorIndex := 563, attributes := #[] }])
  fields := #[{ name := "in", type := (.object "java/io/InputStream"), accessFlags := 25, slot := 0, constantValue := 0 }, { name := "out", type := (.object "java/io/PrintStream"), accessFlags := 25, slot := 1, constantValue := 0 }, { name := "err", type := (.object "java/io/PrintStream"), accessFlags := 25, slot := 2, constantValue := 0 }, { name := "initialIn", type := (.object "java/io/InputStream"), accessFlags := 10, slot := 3, constantValue := 0 }, { name := "NEVER", type := .int, accessFlags := 26, slot := 4, constantValue := 0 }, { name := "MAYBE", type := .int, accessFlags := 26, slot := 5, constantValue := 0 }, { name := "allowSecurityManager", type := .int, accessFlags := 10, slot := 6, constantValue := 0 }, { name := "security", type := (.object "java/lang/SecurityManager"), accessFlags := 74, slot := 7, constantValue := 0 }, { name := "notSupportedJnuEncoding", type := (.object "java/lang/String"), accessFlags := 10, slot := 8, constantValue := 0 }, { name := "cons", type := (.object "java/io/Console"), accessFlags := 74, slot := 9, constantValue := 0 }, { name := "initialErrStream", type := (.object "java/io/PrintStream"), accessFlags := 74, slot := 10, constantValue := 0 }, { name := "props", type := (.object "java/util/Properties"), accessFlags := 10, slot := 11, constantValue := 0 }, { name := "lineSeparator", type := (.object "java/lang/String"), accessFlags := 10, slot := 12, constantValue := 0 }, { name := "bootLayer", type := (.object "java/lang/ModuleLayer"), accessFlags := 8, slot := 13, constantValue := 0 }]
  methods := #[k13m0, k13m1]
  instanceTypes := #[]
  staticTypes := #[(.object "java/io/InputStream"), (.object "java/io/PrintStream"), (.object "java/io/PrintStream"), (.object "java/io/InputStream"), .int, .int, .int, (.object "java/lang/SecurityManager"), (.object "java/lang/String"), (.object "java/io/Console"), (.object "java/io/PrintStream"), (.object "java/util/Properties"), (.object "java/lang/String"), (.object "java/lang/ModuleLayer")]
  resolved := Array.replicate 834 none
  statics := none }

def pool14 : Array CpInfo := pool [(2, .class_ 4), (1, u "java/lang/Object"), (0, u "<init>"), (0, u "()V"), (35, .class_ 44), (1, u "java/util/Objects"), (61, .class_ 108), (1, u "jdk/internal/util/Preconditions"), (5, u "(IIILjava/util/function/BiFunction;)I"), (0, .methodref 106 116), (0, .nameAndType 117 114), (0, u "checkFromIndexSize"), (57, u "(III)I")] 8

def k14m0 : Method := { name := "<init>", desc := "()V", sig := { parameters := [], returnType := none }, accessFlags := 2, code := none }
def k14c1 : Code := { maxStack := 4, maxLocals := 3, code := jdk_31_method_19_code, exceptionTable := #[], attributes := #[] }
def k14m1 : Method := { name := "checkFromIndexSize", desc := "(III)I", sig := { parameters := [.int, .int, .int], returnType := some .int }, accessFlags := 9, code := some k14c1 }
/-- java/util/Objects -/
def k14 : Class := { plain "java/util/Objects" (some 0) with
  accessFlags := 49
  interfaces := #[]
  cf := some (fileOf pool14 42 #[] #[{ accessFlags := 2, nameIndex := 5, descriptorIndex := 6, attributes := #[] }, { accessFlags := 9, nameIndex := 117, descriptorIndex := 175, attributes := #[] }] 49 2 #[] #[])
  fields := #[]
  methods := #[k14m0, k14m1]
  instanceTypes := #[]
  staticTypes := #[]
  resolved := Array.replicate 184 none
  statics := none }

def pool15 : Array CpInfo := pool [(2, .class_ 4), (1, u "java/lang/Object"), (0, u "<init>"), (0, u "()V"), (17, .class_ 26), (1, u "jdk/internal/util/Preconditions"), (22, u "checkFromIndexSize"), (5, .class_ 56), (0, u "jdk/internal/util/Preconditions$4"), (57, .class_ 115), (0, u "jdk/internal/util/Preconditions$1"), (7, u "SIOOBE_FORMATTER"), (0, u "Ljava/util/function/BiFunction;"), (0, .class_ 126), (0, u "jdk/internal/util/Preconditions$2"), (3, u "AIOOBE_FORMATTER"), (0, .class_ 132), (0, u "jdk/internal/util/Preconditions$3"), (3, u "IOOBE_FORMATTER"), (46, u "(IIILjava/util/function/BiFunction;)I")] 10

def k15m0 : Method := { name := "<init>", desc := "()V", sig := { parameters := [], returnType := none }, accessFlags := 1, code := none }
def k15c1 : Code := { maxStack := 4, maxLocals := 4, code := jdk_41_method_13_code, exceptionTable := #[], attributes := #[] }
def k15m1 : Method := { name := "checkFromIndexSize", desc := "(IIILjava/util/function/BiFunction;)I", sig := { parameters := [.int, .int, .int, (.object "java/util/function/BiFunction")], returnType := some .int }, accessFlags := 9, code := some k15c1 }
/-- jdk/internal/util/Preconditions -/
def k15 : Class := { plain "jdk/internal/util/Preconditions" (some 0) with
  accessFlags := 33
  interfaces := #[]
  cf := some (fileOf pool15 24 #[.nestMembers #[55, 131, 125, 114]] #[{ accessFlags := 1, nameIndex := 5, descriptorIndex := 6, attributes := #[] }, { accessFlags := 9, nameIndex := 49, descriptorIndex := 183, attributes := #[] }] 33 2 #[] #[{ accessFlags := 25, nameIndex := 123, descriptorIndex := 124, attributes := #[] }, { accessFlags := 25, nameIndex := 130, descriptorIndex := 124, attributes := #[] }, { accessFlags := 25, nameIndex := 136, descriptorIndex := 124, attributes := #[] }])
  fields := #[{ name := "SIOOBE_FORMATTER", type := (.object "java/util/function/BiFunction"), accessFlags := 25, slot := 0, constantValue := 0 }, { name := "AIOOBE_FORMATTER", type := (.object "java/util/function/BiFunction"), accessFlags := 25, slot := 1, constantValue := 0 }, { name := "IOOBE_FORMATTER", type := (.object "java/util/function/BiFunction"), accessFlags := 25, slot := 2, constantValue := 0 }]
  methods := #[k15m0, k15m1]
  instanceTypes := #[]
  staticTypes := #[(.object "java/util/function/BiFunction"), (.object "java/util/function/BiFunction"), (.object "java/util/function/BiFunction")]
  resolved := Array.replicate 194 none
  statics := none }

def pool16 : Array CpInfo := pool [(1, u "java/lang/Cloneable"), (0, .class_ 1), (0, u "java/lang/Object"), (0, .class_ 3)] 3

/-- java/lang/Cloneable -/
def k16 : Class := { plain "java/lang/Cloneable" (some 0) with
  accessFlags := 1537
  interfaces := #[]
  cf := some (fileOf pool16 2 #[] #[] 1537 4 #[] #[])
  fields := #[]
  methods := #[]
  instanceTypes := #[]
  staticTypes := #[]
  resolved := Array.replicate 8 none
  statics := none }

/-- the primitive byte -/
def k17 : Class := { plain "byte" none with kind := .primitive 'B', accessFlags := 0x411 }
/-- [B -/
def k18 : Class := { plain "[B" (some 0) with kind := .array 17 .byte, interfaces := #[16, 3], accessFlags := 1041 }

/-- the primitive int -/
def k19 : Class := { plain "int" none with kind := .primitive 'I', accessFlags := 0x411 }
/-- [I -/
def k20 : Class := { plain "[I" (some 0) with kind := .array 19 .int, interfaces := #[16, 3], accessFlags := 1041 }

def heap : Heap := #[{ cls := 10, slots := #[.long 0, .int 0, .int 0, .int 0, .int 0, .int 0, .int 0, .int 0, .int 0, .int 0, .int 0, .int 0, .null, .int 0, .int 0, .null, .int 0, .null, .null, .null, .null, .double 0, .ref 1, .null, .null, .null, .null, .null, .int 0, .null, .null, .null, .null, .null, .long 0, .null, .int 0], vm := .statics 10 },
  { cls := 10, slots := #[.int 0, .ref 2, .int 0, .int 0, .int 0, .int 0], vm := .none },
  { cls := 20, slots := #[], vm := .none }]
def classes : Array Class := #[k0, k1, k2, k3, k4, k5, k6, k7, k8, k9, k10, k11, k12, k13, k14, k15, k16, k17, k18, k19, k20]
def interned : List (Array UInt16 × Addr) := []
def slotsUsed : Nat := 43
def theMethod : MethodId := ⟨1, 1⟩
def args0 : Array Value := #[.int 5, .int 300]
def aboutOver (below : List Frame) : State where
  vm := { classes := classes, interned := interned.toArray }
  heap := heap
  slotsUsed := slotsUsed
  threads := #[{ frames := .invoking theMethod args0 :: below }]
def below0 : List Frame := [.native { method := ⟨0, 0⟩, args := #[] }]
def about1 : State := aboutOver below0
def p0 : Program := .bare "" "" ""
def e0 : Env := launch0.env 0 0 0
theorem w_frames : about1.frames = Frame.invoking theMethod args0 :: below0 := rfl
set_option maxRecDepth 65536 in
theorem w_args : argsFit about1.vm theMethod args0 = true := by decide +kernel
set_option maxRecDepth 65536 in
theorem w_heap : heapFits about1 = true := by decide +kernel
set_option maxRecDepth 65536 in
theorem w_runnable : about1.curStatus? = some .runnable := by decide +kernel
set_option maxRecDepth 65536 in
theorem w_alone : about1.alone = true := by decide +kernel
set_option maxRecDepth 65536 in
theorem w_named : about1.methodNamed? x = some theMethod := by decide +kernel
set_option maxRecDepth 65536 in
theorem w_hears : about1.hears theMethod below0 = true := by decide +kernel
set_option maxRecDepth 65536 in
theorem w_ripe : about1.ripe theMethod args0 below0 = true := by decide +kernel
theorem w_running : about1.status = .running := rfl
set_option maxRecDepth 65536 in
theorem w_room : about1.hasRoom e0.platform room_1 = true :=
  launch0.hasRoom_least _ room_1 (by decide +kernel) (by decide +kernel) (by decide +kernel) (by decide +kernel) (by decide +kernel) (by decide +kernel)
theorem allAtoms_all (ts : List Jvm.Cond) (a : Array Jvm.Value) (st : Jvm.State) : (allAtoms ts).before a st = ts.all (fun c => c.before a st) := by
  induction ts with
  | nil => rfl
  | cons c t ih =>
    show (Jvm.Cond.and c (allAtoms t)).before a st = _
    rw [Jvm.Cond.before_and, ih, List.all_cons]
def words1 : List Jvm.Cond := Jvm.Cond.code x code maxLocals ret :: tables_1
/-- a 'code' word, met by the world's own term for the bytes: nothing is compared byte by byte -/
theorem code_word {y : MethodName} {bytes : ByteArray} {mx : Nat} {rt : Option FieldType} {a : Array Value} {s : State} {m : MethodId} {meth : Method} {c : Code} (h1 : s.methodNamed? y = some m) (h2 : s.vm.method? m = some meth) (h3 : meth.code = some c) (h4 : c.code = bytes)
    (h5 : (c.maxLocals == mx && c.exceptionTable.isEmpty && decide (c.maxStack ≤ mostOperands) && decide (meth.sig.returnType = rt) && !meth.locks && decide (parseMethodDescriptor y.desc = some meth.sig)) = true) : (Jvm.Cond.code y bytes mx rt).before a s = true := by
  simp only [Bool.and_eq_true, beq_iff_eq, Bool.not_eq_true', decide_eq_true_eq] at h5
  obtain ⟨⟨⟨⟨⟨g1, g2⟩, g3⟩, g4⟩, g5⟩, g6⟩ := h5
  simp [Cond.before, Cond.holds, Cond.value, h1, h2, h3, h4, g1, g2, g3, g4, g5, g6]
def isCode : Jvm.Cond → Bool
  | .code _ _ _ _ => true
  | _ => false
theorem all_split {L : List Jvm.Cond} {P : Jvm.Cond → Bool} (h1 : L.all (fun c => isCode c || P c) = true) (h2 : ∀ c ∈ L.filter isCode, P c = true) : L.all P = true := by
  refine List.all_eq_true.mpr fun c hc => ?_
  have h := List.all_eq_true.mp h1 c hc
  rcases Bool.eq_false_or_eq_true (isCode c) with hi | hi
  · exact h2 c (List.mem_filter.mpr ⟨hc, hi⟩)
  · simpa [hi] using h
set_option maxRecDepth 65536 in
theorem w_c0 : (Jvm.Cond.code x code maxLocals ret).before args0 about1 = true := code_word (m := ⟨1, 1⟩) (meth := k1m1) (c := k1c1) (by decide +kernel) rfl rfl rfl (by decide +kernel)
set_option maxRecDepth 65536 in
theorem w_c1 : (Jvm.Cond.code ({ cls := "com/example/honeybee/honeybee/device/DerReader", name := "<init>", desc := "([B)V" } : Jvm.MethodName) prog_1_method_1_code (2 : Nat) (Option.none : Option Jvm.ClassFile.FieldType)).before args0 about1 = true := code_word (m := ⟨2, 0⟩) (meth := k2m0) (c := k2c0) (by decide +kernel) rfl rfl rfl (by decide +kernel)
set_option maxRecDepth 65536 in
theorem w_c2 : (Jvm.Cond.code ({ cls := "com/example/honeybee/honeybee/device/DerReader", name := "<init>", desc := "([BII)V" } : Jvm.MethodName) prog_1_method_2_code (4 : Nat) (Option.none : Option Jvm.ClassFile.FieldType)).before args0 about1 = true := code_word (m := ⟨2, 1⟩) (meth := k2m1) (c := k2c1) (by decide +kernel) rfl rfl rfl (by decide +kernel)
set_option maxRecDepth 65536 in
theorem w_c3 : (Jvm.Cond.code ({ cls := "java/lang/Object", name := "<init>", desc := "()V" } : Jvm.MethodName) object_method_1_code (1 : Nat) (Option.none : Option Jvm.ClassFile.FieldType)).before args0 about1 = true := code_word (m := ⟨0, 0⟩) (meth := k0m0) (c := k0c0) (by decide +kernel) rfl rfl rfl (by decide +kernel)
set_option maxRecDepth 65536 in
theorem w_c4 : (Jvm.Cond.code ({ cls := "com/example/honeybee/honeybee/device/DerReader", name := "atEnd", desc := "()Z" } : Jvm.MethodName) prog_1_method_8_code (1 : Nat) (Option.some Jvm.ClassFile.FieldType.boolean)).before args0 about1 = true := code_word (m := ⟨2, 5⟩) (meth := k2m5) (c := k2c5) (by decide +kernel) rfl rfl rfl (by decide +kernel)
set_option maxRecDepth 65536 in
theorem w_c5 : (Jvm.Cond.code ({ cls := "com/example/honeybee/honeybee/device/DerReader", name := "sequence", desc := "()Lcom/example/honeybee/honeybee/device/DerReader;" } : Jvm.MethodName) prog_1_method_3_code (3 : Nat) (Option.some (Jvm.ClassFile.FieldType.object "com/example/honeybee/honeybee/device/DerReader"))).before args0 about1 = true := code_word (m := ⟨2, 2⟩) (meth := k2m2) (c := k2c2) (by decide +kernel) rfl rfl rfl (by decide +kernel)
set_option maxRecDepth 65536 in
theorem w_c6 : (Jvm.Cond.code ({ cls := "com/example/honeybee/honeybee/device/DerReader", name := "header", desc := "(ILjava/lang/String;)I" } : Jvm.MethodName) prog_1_method_9_code (9 : Nat) (Option.some Jvm.ClassFile.FieldType.int)).before args0 about1 = true := code_word (m := ⟨2, 6⟩) (meth := k2m6) (c := k2c6) (by decide +kernel) rfl rfl rfl (by decide +kernel)
set_option maxRecDepth 65536 in
theorem w_c7 : (Jvm.Cond.code ({ cls := "com/example/honeybee/honeybee/device/DerReaderAtEndPinLaw", name := "readOne", desc := "(Lcom/example/honeybee/honeybee/device/DerReader;Z)V" } : Jvm.MethodName) method_3_code (2 : Nat) (Option.none : Option Jvm.ClassFile.FieldType)).before args0 about1 = true := code_word (m := ⟨1, 2⟩) (meth := k1m2) (c := k1c2) (by decide +kernel) rfl rfl rfl (by decide +kernel)
set_option maxRecDepth 65536 in
theorem w_c8 : (Jvm.Cond.code ({ cls := "com/example/honeybee/honeybee/device/DerReader", name := "integer", desc := "()Ljava/math/BigInteger;" } : Jvm.MethodName) prog_1_method_4_code (3 : Nat) (Option.some (Jvm.ClassFile.FieldType.object "java/math/BigInteger"))).before args0 about1 = true := code_word (m := ⟨2, 3⟩) (meth := k2m3) (c := k2c3) (by decide +kernel) rfl rfl rfl (by decide +kernel)
set_option maxRecDepth 65536 in
theorem w_c9 : (Jvm.Cond.code ({ cls := "java/util/Arrays", name := "copyOfRange", desc := "([BII)[B" } : Jvm.MethodName) jdk_65_method_132_code (3 : Nat) (Option.some (Jvm.ClassFile.FieldType.array Jvm.ClassFile.FieldType.byte))).before args0 about1 = true := code_word (m := ⟨11, 2⟩) (meth := k11m2) (c := k11c2) (by decide +kernel) rfl rfl rfl (by decide +kernel)
set_option maxRecDepth 65536 in
theorem w_c10 : (Jvm.Cond.code ({ cls := "java/util/Arrays", name := "copyOfRangeByte", desc := "([BII)[B" } : Jvm.MethodName) jdk_65_method_133_code (5 : Nat) (Option.some (Jvm.ClassFile.FieldType.array Jvm.ClassFile.FieldType.byte))).before args0 about1 = true := code_word (m := ⟨11, 3⟩) (meth := k11m3) (c := k11c3) (by decide +kernel) rfl rfl rfl (by decide +kernel)
set_option maxRecDepth 65536 in
theorem w_c11 : (Jvm.Cond.code ({ cls := "java/util/Arrays", name := "checkLength", desc := "(II)V" } : Jvm.MethodName) jdk_65_method_131_code (2 : Nat) (Option.none : Option Jvm.ClassFile.FieldType)).before args0 about1 = true := code_word (m := ⟨11, 1⟩) (meth := k11m1) (c := k11c1) (by decide +kernel) rfl rfl rfl (by decide +kernel)
set_option maxRecDepth 65536 in
theorem w_c12 : (Jvm.Cond.code ({ cls := "java/lang/Math", name := "min", desc := "(II)I" } : Jvm.MethodName) jdk_29_method_69_code (2 : Nat) (Option.some Jvm.ClassFile.FieldType.int)).before args0 about1 = true := code_word (m := ⟨12, 1⟩) (meth := k12m1) (c := k12c1) (by decide +kernel) rfl rfl rfl (by decide +kernel)
set_option maxRecDepth 65536 in
theorem w_c13 : (Jvm.Cond.code ({ cls := "java/math/BigInteger", name := "<init>", desc := "([B)V" } : Jvm.MethodName) jdk_2097_method_2_code (2 : Nat) (Option.none : Option Jvm.ClassFile.FieldType)).before args0 about1 = true := code_word (m := ⟨10, 1⟩) (meth := k10m1) (c := k10c1) (by decide +kernel) rfl rfl rfl (by decide +kernel)
set_option maxRecDepth 65536 in
theorem w_c14 : (Jvm.Cond.code ({ cls := "java/math/BigInteger", name := "<init>", desc := "([BII)V" } : Jvm.MethodName) jdk_2097_method_1_code (5 : Nat) (Option.none : Option Jvm.ClassFile.FieldType)).before args0 about1 = true := code_word (m := ⟨10, 0⟩) (meth := k10m0) (c := k10c0) (by decide +kernel) rfl rfl rfl (by decide +kernel)
set_option maxRecDepth 65536 in
theorem w_c15 : (Jvm.Cond.code ({ cls := "java/lang/Number", name := "<init>", desc := "()V" } : Jvm.MethodName) jdk_18_method_1_code (1 : Nat) (Option.none : Option Jvm.ClassFile.FieldType)).before args0 about1 = true := code_word (m := ⟨9, 0⟩) (meth := k9m0) (c := k9c0) (by decide +kernel) rfl rfl rfl (by decide +kernel)
set_option maxRecDepth 65536 in
theorem w_c16 : (Jvm.Cond.code ({ cls := "java/util/Objects", name := "checkFromIndexSize", desc := "(III)I" } : Jvm.MethodName) jdk_31_method_19_code (3 : Nat) (Option.some Jvm.ClassFile.FieldType.int)).before args0 about1 = true := code_word (m := ⟨14, 1⟩) (meth := k14m1) (c := k14c1) (by decide +kernel) rfl rfl rfl (by decide +kernel)
set_option maxRecDepth 65536 in
theorem w_c17 : (Jvm.Cond.code ({ cls := "jdk/internal/util/Preconditions", name := "checkFromIndexSize", desc := "(IIILjava/util/function/BiFunction;)I" } : Jvm.MethodName) jdk_41_method_13_code (4 : Nat) (Option.some Jvm.ClassFile.FieldType.int)).before args0 about1 = true := code_word (m := ⟨15, 1⟩) (meth := k15m1) (c := k15c1) (by decide +kernel) rfl rfl rfl (by decide +kernel)
set_option maxRecDepth 65536 in
theorem w_c18 : (Jvm.Cond.code ({ cls := "java/math/BigInteger", name := "stripLeadingZeroBytes", desc := "(I[BII)[I" } : Jvm.MethodName) jdk_2097_method_142_code (8 : Nat) (Option.some (Jvm.ClassFile.FieldType.array Jvm.ClassFile.FieldType.int))).before args0 about1 = true := code_word (m := ⟨10, 2⟩) (meth := k10m2) (c := k10c2) (by decide +kernel) rfl rfl rfl (by decide +kernel)
set_option maxRecDepth 65536 in
theorem w_c19 : (Jvm.Cond.code ({ cls := "com/example/honeybee/honeybee/device/DerReader", name := "nullValue", desc := "()V" } : Jvm.MethodName) prog_1_method_7_code (1 : Nat) (Option.none : Option Jvm.ClassFile.FieldType)).before args0 about1 = true := code_word (m := ⟨2, 4⟩) (meth := k2m4) (c := k2c4) (by decide +kernel) rfl rfl rfl (by decide +kernel)
set_option maxRecDepth 65536 in
theorem w_c20 : (Jvm.Cond.code ({ cls := "java/math/BigInteger", name := "makePositive", desc := "(I[BII)[I" } : Jvm.MethodName) jdk_2097_method_143_code (11 : Nat) (Option.some (Jvm.ClassFile.FieldType.array Jvm.ClassFile.FieldType.int))).before args0 about1 = true := code_word (m := ⟨10, 3⟩) (meth := k10m3) (c := k10c3) (by decide +kernel) rfl rfl rfl (by decide +kernel)
def codes1 : List Jvm.Cond := [Jvm.Cond.code x code maxLocals ret, Jvm.Cond.code ({ cls := "com/example/honeybee/honeybee/device/DerReader", name := "<init>", desc := "([B)V" } : Jvm.MethodName) prog_1_method_1_code (2 : Nat) (Option.none : Option Jvm.ClassFile.FieldType), Jvm.Cond.code ({ cls := "com/example/honeybee/honeybee/device/DerReader", name := "<init>", desc := "([BII)V" } : Jvm.MethodName) prog_1_method_2_code (4 : Nat) (Option.none : Option Jvm.ClassFile.FieldType), Jvm.Cond.code ({ cls := "java/lang/Object", name := "<init>", desc := "()V" } : Jvm.MethodName) object_method_1_code (1 : Nat) (Option.none : Option Jvm.ClassFile.FieldType), Jvm.Cond.code ({ cls := "com/example/honeybee/honeybee/device/DerReader", name := "atEnd", desc := "()Z" } : Jvm.MethodName) prog_1_method_8_code (1 : Nat) (Option.some Jvm.ClassFile.FieldType.boolean), Jvm.Cond.code ({ cls := "com/example/honeybee/honeybee/device/DerReader", name := "sequence", desc := "()Lcom/example/honeybee/honeybee/device/DerReader;" } : Jvm.MethodName) prog_1_method_3_code (3 : Nat) (Option.some (Jvm.ClassFile.FieldType.object "com/example/honeybee/honeybee/device/DerReader")), Jvm.Cond.code ({ cls := "com/example/honeybee/honeybee/device/DerReader", name := "header", desc := "(ILjava/lang/String;)I" } : Jvm.MethodName) prog_1_method_9_code (9 : Nat) (Option.some Jvm.ClassFile.FieldType.int), Jvm.Cond.code ({ cls := "com/example/honeybee/honeybee/device/DerReaderAtEndPinLaw", name := "readOne", desc := "(Lcom/example/honeybee/honeybee/device/DerReader;Z)V" } : Jvm.MethodName) method_3_code (2 : Nat) (Option.none : Option Jvm.ClassFile.FieldType), Jvm.Cond.code ({ cls := "com/example/honeybee/honeybee/device/DerReader", name := "integer", desc := "()Ljava/math/BigInteger;" } : Jvm.MethodName) prog_1_method_4_code (3 : Nat) (Option.some (Jvm.ClassFile.FieldType.object "java/math/BigInteger")), Jvm.Cond.code ({ cls := "java/util/Arrays", name := "copyOfRange", desc := "([BII)[B" } : Jvm.MethodName) jdk_65_method_132_code (3 : Nat) (Option.some (Jvm.ClassFile.FieldType.array Jvm.ClassFile.FieldType.byte)), Jvm.Cond.code ({ cls := "java/util/Arrays", name := "copyOfRangeByte", desc := "([BII)[B" } : Jvm.MethodName) jdk_65_method_133_code (5 : Nat) (Option.some (Jvm.ClassFile.FieldType.array Jvm.ClassFile.FieldType.byte)), Jvm.Cond.code ({ cls := "java/util/Arrays", name := "checkLength", desc := "(II)V" } : Jvm.MethodName) jdk_65_method_131_code (2 : Nat) (Option.none : Option Jvm.ClassFile.FieldType), Jvm.Cond.code ({ cls := "java/lang/Math", name := "min", desc := "(II)I" } : Jvm.MethodName) jdk_29_method_69_code (2 : Nat) (Option.some Jvm.ClassFile.FieldType.int), Jvm.Cond.code ({ cls := "java/math/BigInteger", name := "<init>", desc := "([B)V" } : Jvm.MethodName) jdk_2097_method_2_code (2 : Nat) (Option.none : Option Jvm.ClassFile.FieldType), Jvm.Cond.code ({ cls := "java/math/BigInteger", name := "<init>", desc := "([BII)V" } : Jvm.MethodName) jdk_2097_method_1_code (5 : Nat) (Option.none : Option Jvm.ClassFile.FieldType), Jvm.Cond.code ({ cls := "java/lang/Number", name := "<init>", desc := "()V" } : Jvm.MethodName) jdk_18_method_1_code (1 : Nat) (Option.none : Option Jvm.ClassFile.FieldType), Jvm.Cond.code ({ cls := "java/util/Objects", name := "checkFromIndexSize", desc := "(III)I" } : Jvm.MethodName) jdk_31_method_19_code (3 : Nat) (Option.some Jvm.ClassFile.FieldType.int), Jvm.Cond.code ({ cls := "jdk/internal/util/Preconditions", name := "checkFromIndexSize", desc := "(IIILjava/util/function/BiFunction;)I" } : Jvm.MethodName) jdk_41_method_13_code (4 : Nat) (Option.some Jvm.ClassFile.FieldType.int), Jvm.Cond.code ({ cls := "java/math/BigInteger", name := "stripLeadingZeroBytes", desc := "(I[BII)[I" } : Jvm.MethodName) jdk_2097_method_142_code (8 : Nat) (Option.some (Jvm.ClassFile.FieldType.array Jvm.ClassFile.FieldType.int)), Jvm.Cond.code ({ cls := "com/example/honeybee/honeybee/device/DerReader", name := "nullValue", desc := "()V" } : Jvm.MethodName) prog_1_method_7_code (1 : Nat) (Option.none : Option Jvm.ClassFile.FieldType), Jvm.Cond.code ({ cls := "java/math/BigInteger", name := "makePositive", desc := "(I[BII)[I" } : Jvm.MethodName) jdk_2097_method_143_code (11 : Nat) (Option.some (Jvm.ClassFile.FieldType.array Jvm.ClassFile.FieldType.int))]
set_option maxRecDepth 65536 in
theorem codes_eq : words1.filter isCode = codes1 := rfl
theorem w_codes : ∀ c ∈ words1.filter isCode, c.before args0 about1 = true := by
  rw [codes_eq]
  intro c hc
  simp only [codes1, List.mem_cons, List.not_mem_nil, or_false] at hc
  rcases hc with rfl | rfl | rfl | rfl | rfl | rfl | rfl | rfl | rfl | rfl | rfl | rfl | rfl | rfl | rfl | rfl | rfl | rfl | rfl | rfl | rfl
  · exact w_c0
  · exact w_c1
  · exact w_c2
  · exact w_c3
  · exact w_c4
  · exact w_c5
  · exact w_c6
  · exact w_c7
  · exact w_c8
  · exact w_c9
  · exact w_c10
  · exact w_c11
  · exact w_c12
  · exact w_c13
  · exact w_c14
  · exact w_c15
  · exact w_c16
  · exact w_c17
  · exact w_c18
  · exact w_c19
  · exact w_c20
set_option maxRecDepth 65536 in
theorem w_t1 : (words1.take 24).all (fun c => isCode c || c.before args0 about1) = true := by decide +kernel
set_option maxRecDepth 65536 in
theorem w_t2 : ((words1.drop 24).take 24).all (fun c => isCode c || c.before args0 about1) = true := by decide +kernel
set_option maxRecDepth 65536 in
theorem w_t3 : (((words1.drop 24).drop 24).take 24).all (fun c => isCode c || c.before args0 about1) = true := by decide +kernel
set_option maxRecDepth 65536 in
theorem w_t4 : ((((words1.drop 24).drop 24).drop 24).take 24).all (fun c => isCode c || c.before args0 about1) = true := by decide +kernel
set_option maxRecDepth 65536 in
theorem w_t5 : ((((words1.drop 24).drop 24).drop 24).drop 24).all (fun c => isCode c || c.before args0 about1) = true := by decide +kernel
theorem w_tables : (allAtoms (Jvm.Cond.code x code maxLocals ret :: tables_1)).before args0 about1 = true := by
  rw [allAtoms_all]
  show words1.all (fun c => c.before args0 about1) = true
  refine all_split ?_ w_codes
  rw [← List.take_append_drop 24 words1, List.all_append, w_t1, ← List.take_append_drop 24 (words1.drop 24), List.all_append, w_t2, ← List.take_append_drop 24 ((words1.drop 24).drop 24), List.all_append, w_t3, ← List.take_append_drop 24 (((words1.drop 24).drop 24).drop 24), List.all_append, w_t4, w_t5]
  rfl
set_option maxRecDepth 65536 in
theorem w_rest : rest_1_c.before args0 about1 = true := by decide +kernel
set_option maxRecDepth 65536 in
theorem w_case : (Jvm.Cond.and given_1 narrow_1).before args0 about1 = true := by decide +kernel
theorem w_applies : (headSpec (Jvm.Cond.code x code maxLocals ret :: tables_1) room_1).applies x e0.platform about1 = true :=
  (Spec.applies_iff w_frames).mpr ⟨w_running, w_runnable, w_alone, w_named, w_hears, w_ripe, w_room, w_tables⟩
theorem atStart : AtStart classFile x code maxLocals ret World_1 tables_1 room_1 Calls_1 rest_1 Pre_1 launch0 p0 e0 about1 theMethod args0 below0 :=
  ⟨lists_1, trivial, launch0.admits_env _ _ _, launch0.least_env, fairChoices_fair.cas, fairChoices_fair.clock, w_frames, w_args, w_heap, w_applies, trivial, w_rest, w_case⟩
end start1
theorem witness_1 : WitnessClaimed_1 := ⟨start1.p0, start1.e0, start1.about1, start1.theMethod, start1.args0, start1.below0, start1.atStart⟩
end Jvm.Pilot.@@N@@
