import JvmDerived
import JvmDerived.Pilot.@@N@@Statement
import JvmDerived.Pilot.@@N@@Code
set_option linter.unusedVariables false
set_option linter.unusedSimpArgs false
namespace Jvm.Pilot.@@N@@
open Jvm Jvm.ClassFile Sem Op Lib Jvm.Free Jvm.Stand Jvm.LawKit Jvm.RoadKit Bundle Jvm.Pilot.@@N@@.Jvm.D
/-! own layer: the walk goes forward; own_G S: from S the body ends as F says -/
def own_G (tb : Tables) (e : Env) (below : List Frame) (F : Outcome → State → Prop) (S : State) : Prop :=
  ∃ s₂ o, Steps tb e below S s₂ ∧ s₂.status = .running ∧ Ended s₂ below o ∧ F o s₂
theorem own_go {tb : Tables} {e : Env} {below : List Frame} {F : Outcome → State → Prop} {A B : State} (st : ∀ t, Steps tb e below B t → Steps tb e below A t) (h : own_G tb e below F B) : own_G tb e below F A := by
  obtain ⟨t, o, h1, h2⟩ := h
  exact ⟨t, o, st t h1, h2⟩
theorem own_tr {tb : Tables} {e : Env} {below : List Frame} {F : Outcome → State → Prop} {A B : State} (st : Steps tb e below A B) (h : own_G tb e below F B) : own_G tb e below F A := own_go (fun _ k => st.trans k) h
theorem own_b {n k : Nat} (h : Nat.ble n k = true) : n ≤ k := Nat.le_of_ble_eq_true h
def own_yes {α : Type} [LT α] : ClassFile.Cond → α → α → Prop
  | .eq, x, y => x = y
  | .ne, x, y => ¬ x = y
  | .lt, x, y => x < y
  | .ge, x, y => ¬ x < y
  | .gt, x, y => y < x
  | .le, x, y => ¬ y < x
def own_no {α : Type} [LT α] : ClassFile.Cond → α → α → Prop
  | .eq, x, y => ¬ x = y
  | .ne, x, y => x = y
  | .lt, x, y => ¬ x < y
  | .ge, x, y => x < y
  | .gt, x, y => ¬ y < x
  | .le, x, y => y < x
theorem own_hy {cd : ClassFile.Cond} {x y : Int32} (h : own_yes cd x y) : if_icmp.holds cd x y = true := by
  cases cd
  · exact (teq h).1
  · exact (feq h).2
  · exact (tlt h).1
  · exact (flt h).2.1
  · exact (tlt h).2.2.1
  · exact (flt h).2.2.2
theorem own_hn {cd : ClassFile.Cond} {x y : Int32} (h : own_no cd x y) : if_icmp.holds cd x y = false := by
  cases cd
  · exact (feq h).1
  · exact (teq h).2
  · exact (flt h).1
  · exact (tlt h).2.1
  · exact (flt h).2.2.1
  · exact (tlt h).2.2.2
theorem own_yn {cd : ClassFile.Cond} {x y : Int32} : own_yes cd x y ∨ own_no cd x y := by
  cases cd
  · exact Classical.em _
  · exact (Classical.em _).symm
  · exact Classical.em _
  · exact (Classical.em _).symm
  · exact Classical.em _
  · exact (Classical.em _).symm
theorem own_ynL {cd : ClassFile.Cond} {x y : Int64} : own_yes cd x y ∨ own_no cd x y := by
  cases cd
  · exact Classical.em _
  · exact (Classical.em _).symm
  · exact Classical.em _
  · exact (Classical.em _).symm
  · exact Classical.em _
  · exact (Classical.em _).symm
theorem own_hyL {cd : ClassFile.Cond} {x y : Int64} (h : own_yes cd x y) : ifCond.holds cd (lcmpW x y) = true := by
  rw [if0]
  refine own_hy ?_
  cases cd
  · exact (lw_eq x y).mpr h
  · exact fun q => h ((lw_eq x y).mp q)
  · exact (lw_lt x y).mpr h
  · exact fun q => h ((lw_lt x y).mp q)
  · exact (lw_gt x y).mpr h
  · exact fun q => h ((lw_gt x y).mp q)
theorem own_hnL {cd : ClassFile.Cond} {x y : Int64} (h : own_no cd x y) : ifCond.holds cd (lcmpW x y) = false := by
  rw [if0]
  refine own_hn ?_
  cases cd
  · exact fun q => h ((lw_eq x y).mp q)
  · exact (lw_eq x y).mpr h
  · exact fun q => h ((lw_lt x y).mp q)
  · exact (lw_lt x y).mpr h
  · exact fun q => h ((lw_gt x y).mp q)
  · exact (lw_gt x y).mpr h
section Own
variable {p : Program} {l : Launch} {e : Env} {R : Room} {s : State} {m : MethodId} {args : Array Value} {below : List Frame} {meth : Method} {c : Code} {T : State} {locs : List Loc} {cells slots : Nat} {F : Outcome → State → Prop}
theorem own_abs {n0 : Nat} (X : Stand p l e R s m args below meth c T locs cells slots) (N : Fr n0 locs) : ∃ L, Stand p l e R s m args below meth c T L cells slots ∧ Fr n0 L := ⟨locs, X, N⟩
theorem own_absC {n0 K K' : Nat} {L Lc : List Loc} {k n : Nat} (X : Stand p l e R s m args below meth c T L k n) (hl : L = locs ++ Lc) (hk : k = K) (hn : n = K') (N : Fr n0 locs) (N' : Fr n0 Lc) : ∃ L, Stand p l e R s m args below meth c T L K K' ∧ Fr n0 L := by
  subst hk hn
  exact ⟨L, X, by rw [hl]; exact Fr.app N N'⟩
theorem own_icmpY (X : Stand p l e R s m args below meth c T locs cells slots) (hx : p.tables.exec = Jvm.exec) {cd : ClassFile.Cond} {x y : Int32} {o : Int} {pc pc' : Nat} {Ls : Array Slot} {rest : List Value} (hd : decode c.code pc = .ok (.if_icmp cd o, 3)) (ho : 0 ≤ (pc : Int) + o) (hp : ((pc : Int) + o).toNat = pc')
    (hc : own_yes cd x y) (h1 : own_G p.tables e below F (T.setTop (mkF m pc' Ls rest))) : own_G p.tables e below F (T.setTop (mkF m pc Ls (.int y :: .int x :: rest))) :=
  own_go (fun _ k => XS.icmpYes X.here hx rfl (pc0 := pc) (pc' := pc') rfl hd rfl (own_hy hc) ho hp k) h1
theorem own_icmpN (X : Stand p l e R s m args below meth c T locs cells slots) (hx : p.tables.exec = Jvm.exec) {cd : ClassFile.Cond} {x y : Int32} {o : Int} {pc pn : Nat} {Ls : Array Slot} {rest : List Value} (hd : decode c.code pc = .ok (.if_icmp cd o, 3)) (hq : pc + 3 = pn)
    (hc : own_no cd x y) (h1 : own_G p.tables e below F (T.setTop (mkF m pn Ls rest))) : own_G p.tables e below F (T.setTop (mkF m pc Ls (.int y :: .int x :: rest))) := by
  subst hq
  exact own_go (fun _ k => XS.icmpNo X.here hx rfl hd rfl (own_hn hc) k) h1
theorem own_icmp (X : Stand p l e R s m args below meth c T locs cells slots) (hx : p.tables.exec = Jvm.exec) {cd : ClassFile.Cond} {x y : Int32} {o : Int} {pc pc' pn : Nat} {Ls : Array Slot} {rest : List Value} (hd : decode c.code pc = .ok (.if_icmp cd o, 3)) (ho : 0 ≤ (pc : Int) + o) (hp : ((pc : Int) + o).toNat = pc') (hq : pc + 3 = pn)
    (h1 : own_yes cd x y → own_G p.tables e below F (T.setTop (mkF m pc' Ls rest))) (h2 : own_no cd x y → own_G p.tables e below F (T.setTop (mkF m pn Ls rest))) : own_G p.tables e below F (T.setTop (mkF m pc Ls (.int y :: .int x :: rest))) :=
  own_yn.elim (fun q => own_icmpY X hx hd ho hp q (h1 q)) (fun q => own_icmpN X hx hd hq q (h2 q))
theorem own_ifY (X : Stand p l e R s m args below meth c T locs cells slots) (hx : p.tables.exec = Jvm.exec) {cd : ClassFile.Cond} {x : Int32} {o : Int} {pc pc' : Nat} {Ls : Array Slot} {rest : List Value} (hd : decode c.code pc = .ok (.ifCond cd o, 3)) (ho : 0 ≤ (pc : Int) + o) (hp : ((pc : Int) + o).toNat = pc')
    (hc : own_yes cd x 0) (h1 : own_G p.tables e below F (T.setTop (mkF m pc' Ls rest))) : own_G p.tables e below F (T.setTop (mkF m pc Ls (.int x :: rest))) :=
  own_go (fun _ k => XS.ifYes X.here hx rfl (pc0 := pc) (pc' := pc') rfl hd rfl ((if0 cd x).trans (own_hy hc)) ho hp k) h1
theorem own_ifN (X : Stand p l e R s m args below meth c T locs cells slots) (hx : p.tables.exec = Jvm.exec) {cd : ClassFile.Cond} {x : Int32} {o : Int} {pc pn : Nat} {Ls : Array Slot} {rest : List Value} (hd : decode c.code pc = .ok (.ifCond cd o, 3)) (hq : pc + 3 = pn)
    (hc : own_no cd x 0) (h1 : own_G p.tables e below F (T.setTop (mkF m pn Ls rest))) : own_G p.tables e below F (T.setTop (mkF m pc Ls (.int x :: rest))) := by
  subst hq
  exact own_go (fun _ k => XS.ifNo X.here hx rfl hd rfl ((if0 cd x).trans (own_hn hc)) k) h1
theorem own_if (X : Stand p l e R s m args below meth c T locs cells slots) (hx : p.tables.exec = Jvm.exec) {cd : ClassFile.Cond} {x : Int32} {o : Int} {pc pc' pn : Nat} {Ls : Array Slot} {rest : List Value} (hd : decode c.code pc = .ok (.ifCond cd o, 3)) (ho : 0 ≤ (pc : Int) + o) (hp : ((pc : Int) + o).toNat = pc') (hq : pc + 3 = pn)
    (h1 : own_yes cd x 0 → own_G p.tables e below F (T.setTop (mkF m pc' Ls rest))) (h2 : own_no cd x 0 → own_G p.tables e below F (T.setTop (mkF m pn Ls rest))) : own_G p.tables e below F (T.setTop (mkF m pc Ls (.int x :: rest))) :=
  own_yn.elim (fun q => own_ifY X hx hd ho hp q (h1 q)) (fun q => own_ifN X hx hd hq q (h2 q))
theorem own_lifY (X : Stand p l e R s m args below meth c T locs cells slots) (hx : p.tables.exec = Jvm.exec) {cd : ClassFile.Cond} {x y : Int64} {o : Int} {pc pc' : Nat} {Ls : Array Slot} {rest : List Value} (hd : decode c.code pc = .ok (.ifCond cd o, 3)) (ho : 0 ≤ (pc : Int) + o) (hp : ((pc : Int) + o).toNat = pc')
    (hc : own_yes cd x y) (h1 : own_G p.tables e below F (T.setTop (mkF m pc' Ls rest))) : own_G p.tables e below F (T.setTop (mkF m pc Ls (.int (lcmpW x y) :: rest))) :=
  own_go (fun _ k => XS.ifYes X.here hx rfl (pc0 := pc) (pc' := pc') rfl hd rfl (own_hyL hc) ho hp k) h1
theorem own_lifN (X : Stand p l e R s m args below meth c T locs cells slots) (hx : p.tables.exec = Jvm.exec) {cd : ClassFile.Cond} {x y : Int64} {o : Int} {pc pn : Nat} {Ls : Array Slot} {rest : List Value} (hd : decode c.code pc = .ok (.ifCond cd o, 3)) (hq : pc + 3 = pn)
    (hc : own_no cd x y) (h1 : own_G p.tables e below F (T.setTop (mkF m pn Ls rest))) : own_G p.tables e below F (T.setTop (mkF m pc Ls (.int (lcmpW x y) :: rest))) := by
  subst hq
  exact own_go (fun _ k => XS.ifNo X.here hx rfl hd rfl (own_hnL hc) k) h1
theorem own_lif (X : Stand p l e R s m args below meth c T locs cells slots) (hx : p.tables.exec = Jvm.exec) {cd : ClassFile.Cond} {x y : Int64} {o : Int} {pc pc' pn : Nat} {Ls : Array Slot} {rest : List Value} (hd : decode c.code pc = .ok (.ifCond cd o, 3)) (ho : 0 ≤ (pc : Int) + o) (hp : ((pc : Int) + o).toNat = pc') (hq : pc + 3 = pn)
    (h1 : own_yes cd x y → own_G p.tables e below F (T.setTop (mkF m pc' Ls rest))) (h2 : own_no cd x y → own_G p.tables e below F (T.setTop (mkF m pn Ls rest))) : own_G p.tables e below F (T.setTop (mkF m pc Ls (.int (lcmpW x y) :: rest))) :=
  own_ynL.elim (fun q => own_lifY X hx hd ho hp q (h1 q)) (fun q => own_lifN X hx hd hq q (h2 q))
theorem own_ret (X : Stand p l e R s m args below meth c T locs cells slots) (hx : p.tables.exec = Jvm.exec) (hlk : meth.locks = false) {K N pc : Nat} {Ls : Array Slot} {w : Value} {t : FieldType} {i : Instr} {rest : List Value} {Q : Option Value → Heap → List Loc → Prop} (hret : meth.sig.returnType = some t) (hn : narrow t w = w)
    (hi : (i = .ireturn ∧ (t = .int ∨ t = .boolean ∨ t = .byte ∨ t = .char ∨ t = .short) ∧ ∃ z, w = .int z) ∨ (i = .lreturn ∧ t = .long ∧ ∃ z, w = .long z) ∨ (i = .dreturn ∧ t = .double ∧ ∃ z, w = .double z) ∨ (i = .freturn ∧ t = .float ∧ ∃ z, w = .float z) ∨ (i = .areturn ∧ t.isReference = true ∧ w.isRef = true))
    (hd : decode c.code pc = .ok (i, 1)) (hK : cells ≤ K) (hN : slots ≤ N) (hQ : Q (some w) T.heap locs) :
    own_G p.tables e below (fun o U' => ∃ v L, o = .returned v ∧ Q v U'.heap L ∧ FrameEnd s o U' L K N) (T.setTop (mkF m pc Ls (w :: rest))) := by
  obtain ⟨fs, hr, hrun, hended, hW, hsame⟩ := X.leave (v := some w) (fun h => by rw [hret] at h; cases h) hlk
  exact ⟨_, _, retOut X hx hret hn hi hd hr, hrun, hended, _, _, rfl, hQ, ⟨_, rfl⟩, hW, hsame.mono hK hN⟩
theorem own_retI (X : Stand p l e R s m args below meth c T locs cells slots) (hx : p.tables.exec = Jvm.exec) (hlk : meth.locks = false) {K N pc : Nat} {Ls : Array Slot} {z : Int32} {rest : List Value} {Q : Option Value → Heap → List Loc → Prop} (hret : meth.sig.returnType = some .int)
    (hd : decode c.code pc = .ok (.ireturn, 1)) (hK : cells ≤ K) (hN : slots ≤ N) (hQ : Q (some (.int z)) T.heap locs) :
    own_G p.tables e below (fun o U' => ∃ v L, o = .returned v ∧ Q v U'.heap L ∧ FrameEnd s o U' L K N) (T.setTop (mkF m pc Ls (.int z :: rest))) :=
  own_ret X hx hlk hret rfl (Or.inl ⟨rfl, Or.inl rfl, z, rfl⟩) hd hK hN hQ
theorem own_retZ (X : Stand p l e R s m args below meth c T locs cells slots) (hx : p.tables.exec = Jvm.exec) (hlk : meth.locks = false) {K N pc : Nat} {Ls : Array Slot} {z : Int32} {rest : List Value} {Q : Option Value → Heap → List Loc → Prop} (hret : meth.sig.returnType = some .boolean)
    (hd : decode c.code pc = .ok (.ireturn, 1)) (hz : z = 0 ∨ z = 1) (hK : cells ≤ K) (hN : slots ≤ N) (hQ : Q (some (.int z)) T.heap locs) :
    own_G p.tables e below (fun o U' => ∃ v L, o = .returned v ∧ Q v U'.heap L ∧ FrameEnd s o U' L K N) (T.setTop (mkF m pc Ls (.int z :: rest))) :=
  own_ret X hx hlk hret (by rcases hz with rfl | rfl <;> rfl) (Or.inl ⟨rfl, Or.inr (Or.inl rfl), z, rfl⟩) hd hK hN hQ
theorem own_retL (X : Stand p l e R s m args below meth c T locs cells slots) (hx : p.tables.exec = Jvm.exec) (hlk : meth.locks = false) {K N pc : Nat} {Ls : Array Slot} {z : Int64} {rest : List Value} {Q : Option Value → Heap → List Loc → Prop} (hret : meth.sig.returnType = some .long)
    (hd : decode c.code pc = .ok (.lreturn, 1)) (hK : cells ≤ K) (hN : slots ≤ N) (hQ : Q (some (.long z)) T.heap locs) :
    own_G p.tables e below (fun o U' => ∃ v L, o = .returned v ∧ Q v U'.heap L ∧ FrameEnd s o U' L K N) (T.setTop (mkF m pc Ls (.long z :: rest))) :=
  own_ret X hx hlk hret rfl (Or.inr (Or.inl ⟨rfl, rfl, z, rfl⟩)) hd hK hN hQ
theorem own_retA (X : Stand p l e R s m args below meth c T locs cells slots) (hx : p.tables.exec = Jvm.exec) (hlk : meth.locks = false) {K N pc : Nat} {Ls : Array Slot} {w : Value} {t : FieldType} {rest : List Value} {Q : Option Value → Heap → List Loc → Prop} (hret : meth.sig.returnType = some t) (ht : t.isReference = true) (hw : w.isRef = true)
    (hd : decode c.code pc = .ok (.areturn, 1)) (hK : cells ≤ K) (hN : slots ≤ N) (hQ : Q (some w) T.heap locs) :
    own_G p.tables e below (fun o U' => ∃ v L, o = .returned v ∧ Q v U'.heap L ∧ FrameEnd s o U' L K N) (T.setTop (mkF m pc Ls (w :: rest))) :=
  own_ret X hx hlk hret (by cases t <;> first | (cases ht; done) | (rcases ref_cases hw with rfl | ⟨z, rfl⟩ <;> rfl)) (Or.inr (Or.inr (Or.inr (Or.inr ⟨rfl, ht, hw⟩)))) hd hK hN hQ
theorem own_retV (X : Stand p l e R s m args below meth c T locs cells slots) (hx : p.tables.exec = Jvm.exec) (hlk : meth.locks = false) {K N pc : Nat} {Ls : Array Slot} {Q : Option Value → Heap → List Loc → Prop} (hret : meth.sig.returnType = none)
    (hd : decode c.code pc = .ok (.return_, 1)) (hK : cells ≤ K) (hN : slots ≤ N) (hQ : Q none T.heap locs) :
    own_G p.tables e below (fun o U' => ∃ v L, o = .returned v ∧ Q v U'.heap L ∧ FrameEnd s o U' L K N) (T.setTop (mkF m pc Ls [])) := by
  obtain ⟨fs, hr, hrun, hended, hW, hsame⟩ := X.leave (v := none) (fun _ => rfl) hlk
  exact ⟨_, _, X.returnOut hx hret hd hr, hrun, hended, _, _, rfl, hQ, ⟨_, rfl⟩, hW, hsame.mono hK hN⟩
theorem own_acmpVE (X : Stand p l e R s m args below meth c T locs cells slots) (hx : p.tables.exec = Jvm.exec) {cd : ACond} {x y : Value} (h1 : x.isRef = true) (h2 : y.isRef = true) {o : Int} {pc pc' : Nat} {Ls : Array Slot} {rest : List Value} (hd : decode c.code pc = .ok (.if_acmp cd o, 3)) (ho : 0 ≤ (pc : Int) + o) (hp : pc' = if acV cd true = true then ((pc : Int) + o).toNat else pc + 3)
    (hc : x = y) (k : own_G p.tables e below F (T.setTop (mkF m pc' Ls rest))) : own_G p.tables e below F (T.setTop (mkF m pc Ls (y :: x :: rest))) :=
  own_go (fun _ q => RoadKit.acmp X hx rfl h1 h2 (pc0 := pc) (pc' := pc') (same := true) rfl hd rfl (by simp [hc]) ho hp q) k
theorem own_acmpVD (X : Stand p l e R s m args below meth c T locs cells slots) (hx : p.tables.exec = Jvm.exec) {cd : ACond} {x y : Value} (h1 : x.isRef = true) (h2 : y.isRef = true) {o : Int} {pc pc' : Nat} {Ls : Array Slot} {rest : List Value} (hd : decode c.code pc = .ok (.if_acmp cd o, 3)) (ho : 0 ≤ (pc : Int) + o) (hp : pc' = if acV cd false = true then ((pc : Int) + o).toNat else pc + 3)
    (hc : ¬ x = y) (k : own_G p.tables e below F (T.setTop (mkF m pc' Ls rest))) : own_G p.tables e below F (T.setTop (mkF m pc Ls (y :: x :: rest))) :=
  own_go (fun _ q => RoadKit.acmp X hx rfl h1 h2 (pc0 := pc) (pc' := pc') (same := false) rfl hd rfl (by simp [hc]) ho hp q) k
theorem own_acmpAE (X : Stand p l e R s m args below meth c T locs cells slots) (hx : p.tables.exec = Jvm.exec) {cd : ACond} {x y : Addr} {o : Int} {pc pc' : Nat} {Ls : Array Slot} {rest : List Value} (hd : decode c.code pc = .ok (.if_acmp cd o, 3)) (ho : 0 ≤ (pc : Int) + o) (hp : pc' = if acV cd true = true then ((pc : Int) + o).toNat else pc + 3)
    (hc : x = y) (k : own_G p.tables e below F (T.setTop (mkF m pc' Ls rest))) : own_G p.tables e below F (T.setTop (mkF m pc Ls (.ref y :: .ref x :: rest))) :=
  own_acmpVE X hx rfl rfl hd ho hp (by rw [hc]) k
theorem own_acmpAD (X : Stand p l e R s m args below meth c T locs cells slots) (hx : p.tables.exec = Jvm.exec) {cd : ACond} {x y : Addr} {o : Int} {pc pc' : Nat} {Ls : Array Slot} {rest : List Value} (hd : decode c.code pc = .ok (.if_acmp cd o, 3)) (ho : 0 ≤ (pc : Int) + o) (hp : pc' = if acV cd false = true then ((pc : Int) + o).toNat else pc + 3)
    (hc : ¬ x = y) (k : own_G p.tables e below F (T.setTop (mkF m pc' Ls rest))) : own_G p.tables e below F (T.setTop (mkF m pc Ls (.ref y :: .ref x :: rest))) :=
  own_acmpVD X hx rfl rfl hd ho hp (fun q => hc (by cases q; rfl)) k
end Own
theorem own_cat1 {v : Value} (h : v.isRef = true) : v.category = 1 := by cases v <;> first | (cases h; done) | rfl
theorem own_sta_keep {Z : State} {h h' : Heap} {C n d : String} {v : Value} {ws : List Addr} (F : Sta Z h C n d v) (K : Keep h h' ws) (q : ∀ x ∈ ws, ∀ c : Cell, h[x]? = some c → c.vm.isStatics = false) : Sta Z h' C n d v := by
  obtain ⟨cf, i, k, f, st, cell, h1, h2, h3, h4, h5, h6, h7⟩ := F
  exact ⟨cf, i, k, f, st, cell, h1, h2, h3, h4, K.2.1 _ _ h5 (fun z => by rw [q _ z _ h5] at h6; cases h6), h6, h7⟩
theorem own_eqint {t : Term} {n : Int32} {args : Array Value} {s : State} (h : (Jvm.Cond.eq t (Term.int n)).value args s none s [] = some true) : t.eval args s none [] s = some (.int n) := by
  have hb : (Term.int n).eval args s none [] s = some (.int n) := Term.int_eval n
  simp only [Jvm.Cond.value, hb] at h
  cases ht : t.eval args s none [] s with
  | none => simp [ht] at h
  | some v => cases v <;> simp [ht] at h ⊢; exact h
theorem own_iconst {tb : Tables} [Ours tb] {e : Env} {below : List Frame} {T target : State} {m : MethodId} {c : Code} {g : JFrame} {v : Int32} (h : At T m c below) (hx : tb.exec = Jvm.exec) (hg : g.method = m) {i : Int} (hd : decode c.code g.pc = .ok (.iconst i, 1)) (hv : Int32.ofInt i = v)
    (hr : Steps tb e below (T.setTop { g with pc := g.pc + 1, stack := .int v :: g.stack }) target) : Steps tb e below (T.setTop g) target := by
  subst hv
  exact XS.iconst h hx hg hd hr
theorem own_bipush {tb : Tables} [Ours tb] {e : Env} {below : List Frame} {T target : State} {m : MethodId} {c : Code} {g : JFrame} {v : Int32} (h : At T m c below) (hx : tb.exec = Jvm.exec) (hg : g.method = m) {i : Int} (hd : decode c.code g.pc = .ok (.bipush i, 2)) (hv : (Int8.ofInt i).toInt32 = v)
    (hr : Steps tb e below (T.setTop { g with pc := g.pc + 2, stack := .int v :: g.stack }) target) : Steps tb e below (T.setTop g) target := by
  subst hv
  exact XS.bipush h hx hg hd hr
theorem own_sipush {tb : Tables} [Ours tb] {e : Env} {below : List Frame} {T target : State} {m : MethodId} {c : Code} {g : JFrame} {v : Int32} (h : At T m c below) (hx : tb.exec = Jvm.exec) (hg : g.method = m) {i : Int} (hd : decode c.code g.pc = .ok (.sipush i, 3)) (hv : (Int16.ofInt i).toInt32 = v)
    (hr : Steps tb e below (T.setTop { g with pc := g.pc + 3, stack := .int v :: g.stack }) target) : Steps tb e below (T.setTop g) target := by
  subst hv
  exact XS.sipush h hx hg hd hr
/-! own layer: arrays by their whole list of values -/
def own_Ar (Z : State) (h : Heap) (a : Addr) (ty : FieldType) (L : List Value) : Prop := ∃ c : Cell, Arr Z h a c ty ∧ c.slots.toList = L
theorem own_lenL {L : List Value} {n : Nat} {z : Int32} (h : L.length = n) (h2 : n.toInt32 = z) : L.length.toInt32 = z := by rw [h]; exact h2
section OwnArr
variable {Z : State} {h h' : Heap} {a b : Addr} {ty : FieldType} {L : List Value}
theorem own_Ar_new {cA : ClassId} {n : Int32} {N : Nat} (A : Arr Z h a (newA cA ty n) ty) (hN : n.toNatClampNeg = N) (hL : List.replicate N (defaultValue ty) = L) : own_Ar Z h a ty L := ⟨_, A, by rw [← hL, ← hN]; simp [newA]⟩
theorem own_Ar_ext (F : own_Ar Z h a ty L) (E : Ext h h') : own_Ar Z h' a ty L := by obtain ⟨c, A, r⟩ := F; exact ⟨c, A.ext E, r⟩
theorem own_Ar_other {sl : Nat} {v : Value} (F : own_Ar Z h b ty L) (W : Wr h h' a sl v) (q : b ≠ a) : own_Ar Z h' b ty L := by obtain ⟨c, A, r⟩ := F; exact ⟨c, A.other W q, r⟩
theorem own_Ar_keep {ws : List Addr} (F : own_Ar Z h a ty L) (K : Keep h h' ws) (q : a ∉ ws) : own_Ar Z h' a ty L := by obtain ⟨c, A, r⟩ := F; exact ⟨c, ⟨K.2.1 a c A.1 q, A.2⟩, r⟩
theorem own_Ar_lt (F : own_Ar Z h a ty L) : a < h.size := by obtain ⟨c, A, -⟩ := F; exact A.lt
theorem own_Ar_same {i : Nat} {v : Value} {L' : List Value} (F : own_Ar Z h a ty L) (W : Wr h h' a i v) (hL : L.set i v = L') : own_Ar Z h' a ty L' := by
  obtain ⟨c, A, r⟩ := F
  refine ⟨_, A.same W, ?_⟩
  rw [← hL, ← r]
  simp [Cell.setSlot]
theorem own_Ar_ne {C : String} {k : Nat} {a0 : Array Value} (E : Exa Z h b C) (wi : (Jvm.Cond.instantiable C k).before a0 Z = true) (F : own_Ar Z h a ty L) : b ≠ a := by obtain ⟨c, A, -⟩ := F; exact ne_arr E wi A
theorem own_in_of {c : Cell} {j : Int32} (r : c.slots.toList = L) (hj : ¬ j < 0) (hl : j.toNatClampNeg < L.length) : ¬ (j < 0 ∨ c.slots.size ≤ j.toNatClampNeg) := by
  have e : c.slots.size = L.length := by rw [← r]; simp
  rw [e]
  exact fun q => q.elim hj (fun z => absurd hl (Nat.not_lt.mpr z))
theorem own_at_of {c : Cell} {i : Nat} {v : Value} (r : c.slots.toList = L) (hv : L[i]? = some v) : c.slots[i]? = some v := by
  rw [← hv, ← r]; simp
theorem own_lt_of {i : Nat} {v : Value} (hv : L[i]? = some v) : i < L.length := (List.getElem?_eq_some_iff.mp hv).1
variable {p : Program} {l : Launch} {e : Env} {R : Room} {s : State} {m : MethodId} {args : Array Value} {below : List Frame} {meth : Method} {c : Code} {T : State} {locs : List Loc} {cells slots : Nat}
theorem own_stI (X : Stand p l e R s m args below meth c T locs cells slots) (hx : p.tables.exec = Jvm.exec) (hZ : Z.Warmed39 s.vm) (eT : T.heap = h) (F : own_Ar Z h a .int L) {j x : Int32} {i : Nat} (hi : j.toNatClampNeg = i) (hj : ¬ j < 0) (hl : i < L.length) {L' : List Value} (hL : L.set i (.int x) = L')
    {g : JFrame} (hg : g.method = m) {rest : List Value} (hs : g.stack = .int x :: .int j :: .ref a :: rest) (hd : decode c.code g.pc = .ok (.iastore, 1)) :
    ∃ T' h', Stand p l e R s m args below meth c T' (locs ++ [⟨a, i⟩]) cells slots ∧ T'.heap = h' ∧ Wr h h' a i (.int x) ∧ own_Ar Z h' a .int L' ∧ ∀ target, Steps p.tables e below (T'.setTop { g with pc := g.pc + 1, stack := rest }) target → Steps p.tables e below (T.setTop g) target := by
  subst hi
  obtain ⟨cl, A, r⟩ := F
  obtain ⟨T', h', X', e', W, st⟩ := stI X hx hZ eT A (own_in_of r hj hl) hg hs hd
  exact ⟨T', h', X', e', W, own_Ar_same ⟨cl, A, r⟩ W hL, st⟩
theorem own_ldI (X : Stand p l e R s m args below meth c T locs cells slots) (hx : p.tables.exec = Jvm.exec) (hZ : Z.Warmed39 s.vm) (eT : T.heap = h) (F : own_Ar Z h a .int L) {j : Int32} {v : Value} (hj : ¬ j < 0) (hv : L[j.toNatClampNeg]? = some v)
    {g : JFrame} (hg : g.method = m) {rest : List Value} (hs : g.stack = .int j :: .ref a :: rest) (hd : decode c.code g.pc = .ok (.iaload, 1)) :
    ∀ target, Steps p.tables e below (T.setTop { g with pc := g.pc + 1, stack := v :: rest }) target → Steps p.tables e below (T.setTop g) target := by
  obtain ⟨cl, A, r⟩ := F
  exact X.iaload hx (by rw [eT]; exact A.1) (State.isArrayOf_alike hZ.alike A.2.1) A.2.2 (own_in_of r hj (own_lt_of hv)) (own_at_of r hv) hg hs hd
theorem own_ldB (X : Stand p l e R s m args below meth c T locs cells slots) (hx : p.tables.exec = Jvm.exec) (hZ : Z.Warmed39 s.vm) (eT : T.heap = h) (F : own_Ar Z h a .byte L) {j : Int32} {v : Value} (hj : ¬ j < 0) (hv : L[j.toNatClampNeg]? = some v)
    {g : JFrame} (hg : g.method = m) {rest : List Value} (hs : g.stack = .int j :: .ref a :: rest) (hd : decode c.code g.pc = .ok (.baload, 1)) :
    ∀ target, Steps p.tables e below (T.setTop { g with pc := g.pc + 1, stack := v :: rest }) target → Steps p.tables e below (T.setTop g) target := by
  obtain ⟨cl, A, r⟩ := F
  exact X.baloadBytes hx (by rw [eT]; exact A.1) (State.isArrayOf_alike hZ.alike A.2.1) A.2.2 (own_in_of r hj (own_lt_of hv)) (own_at_of r hv) hg hs hd
theorem own_ldR (X : Stand p l e R s m args below meth c T locs cells slots) (hx : p.tables.exec = Jvm.exec) (hZ : Z.Warmed39 s.vm) (eT : T.heap = h) (F : own_Ar Z h a ty L) (hty : ty.isReference = true) {j : Int32} {v : Value} (hj : ¬ j < 0) (hv : L[j.toNatClampNeg]? = some v)
    {g : JFrame} (hg : g.method = m) {rest : List Value} (hs : g.stack = .int j :: .ref a :: rest) (hd : decode c.code g.pc = .ok (.aaload, 1)) :
    ∀ target, Steps p.tables e below (T.setTop { g with pc := g.pc + 1, stack := v :: rest }) target → Steps p.tables e below (T.setTop g) target := by
  obtain ⟨cl, A, r⟩ := F
  exact X.aaload hx (by rw [eT]; exact A.1) (State.isArrayOf_alike hZ.alike A.2.1) hty A.2.2 (own_in_of r hj (own_lt_of hv)) (own_at_of r hv) hg hs hd
theorem own_alen (X : Stand p l e R s m args below meth c T locs cells slots) (hx : p.tables.exec = Jvm.exec) (hZ : Z.Warmed39 s.vm) (eT : T.heap = h) (F : own_Ar Z h a ty L) {n : Int32} (hn : L.length.toInt32 = n)
    {g : JFrame} (hg : g.method = m) {rest : List Value} (hs : g.stack = .ref a :: rest) (hd : decode c.code g.pc = .ok (.arraylength, 1)) :
    ∀ target, Steps p.tables e below (T.setTop { g with pc := g.pc + 1, stack := .int n :: rest }) target → Steps p.tables e below (T.setTop g) target := by
  obtain ⟨cl, A, r⟩ := F
  have q : cl.slots.size.toInt32 = n := by rw [← hn, ← r]; simp
  rw [← q]
  exact fun t k => X.arraylength hx (by rw [eT]; exact A.1) (State.isArrayOf_alike hZ.alike A.2.1) hg hs hd t k
end OwnArr
/-! own layer: arrays of references -/
def own_Ao (Z : State) (h : Heap) (a : Addr) (C : String) (L : List Value) : Prop := ∃ c : Cell, Arr Z h a c (.object C) ∧ Ovr Z c.cls C ∧ c.slots.toList = L
section OwnArrO
variable {Z : State} {h h' : Heap} {a b : Addr} {C : String} {L : List Value}
theorem own_Ao_new {cA : ClassId} {n : Int32} (A : Arr Z h a (newA cA (.object C) n) (.object C)) (O : Ovr Z cA C) : own_Ao Z h a C (List.replicate n.toNatClampNeg .null) := ⟨_, A, O, by simp [newA, defaultValue]⟩
theorem own_Ao_ar (F : own_Ao Z h a C L) : own_Ar Z h a (.object C) L := by obtain ⟨c, A, -, r⟩ := F; exact ⟨c, A, r⟩
theorem own_Ao_ext (F : own_Ao Z h a C L) (E : Ext h h') : own_Ao Z h' a C L := by obtain ⟨c, A, r⟩ := F; exact ⟨c, A.ext E, r⟩
theorem own_Ao_other {sl : Nat} {v : Value} (F : own_Ao Z h b C L) (W : Wr h h' a sl v) (q : b ≠ a) : own_Ao Z h' b C L := by obtain ⟨c, A, r⟩ := F; exact ⟨c, A.other W q, r⟩
theorem own_Ao_keep {ws : List Addr} (F : own_Ao Z h a C L) (K : Keep h h' ws) (q : a ∉ ws) : own_Ao Z h' a C L := by obtain ⟨c, A, r⟩ := F; exact ⟨c, ⟨K.2.1 a c A.1 q, A.2⟩, r⟩
theorem own_Ao_lt (F : own_Ao Z h a C L) : a < h.size := by obtain ⟨c, A, -⟩ := F; exact A.lt
theorem own_Ao_same {i : Nat} {v : Value} (F : own_Ao Z h a C L) (W : Wr h h' a i v) : own_Ao Z h' a C (L.set i v) := by
  obtain ⟨c, A, O, r⟩ := F
  refine ⟨_, A.same W, O, ?_⟩
  rw [← r]
  simp [Cell.setSlot]
variable {p : Program} {l : Launch} {e : Env} {R : Room} {s : State} {m : MethodId} {args : Array Value} {below : List Frame} {meth : Method} {c : Code} {T : State} {locs : List Loc} {cells slots : Nat}
theorem own_stR (X : Stand p l e R s m args below meth c T locs cells slots) (hx : p.tables.exec = Jvm.exec) (hZ : Z.Warmed39 s.vm) (eT : T.heap = h) (F : own_Ao Z h a C L) {j : Int32} {v : Value} (hv : v = .null ∨ ∃ y, v = .ref y ∧ Ins Z h y C true) (hj : ¬ j < 0) (hl : j.toNatClampNeg < L.length)
    {g : JFrame} (hg : g.method = m) {rest : List Value} (hs : g.stack = v :: .int j :: .ref a :: rest) (hd : decode c.code g.pc = .ok (.aastore, 1)) :
    ∃ T' h', Stand p l e R s m args below meth c T' (locs ++ [⟨a, j.toNatClampNeg⟩]) cells slots ∧ T'.heap = h' ∧ Wr h h' a j.toNatClampNeg v ∧ own_Ao Z h' a C (L.set j.toNatClampNeg v) ∧ ∀ target, Steps p.tables e below (T'.setTop { g with pc := g.pc + 1, stack := rest }) target → Steps p.tables e below (T.setTop g) target := by
  obtain ⟨cl, A, O, r⟩ := F
  have S : Sto Z h a v := by
    rcases hv with rfl | ⟨y, rfl, I⟩
    · exact Or.inl rfl
    · exact Sto.of A O I
  obtain ⟨T', h', X', e', W, st⟩ := stR X hx hZ eT A (own_in_of r hj hl) rfl S hg hs hd
  exact ⟨T', h', X', e', W, own_Ao_same ⟨cl, A, O, r⟩ W, st⟩
end OwnArrO
/-! own layer: a bundle of boxed ints -/
def own_Bn (Z : State) (h : Heap) (l : List (Addr × Int32)) : Prop := ∀ x ∈ l, Exa Z h x.1 "java/lang/Integer" ∧ Fld Z h x.1 "java/lang/Integer" "value" "I" (.int x.2)
theorem own_Bn_keep {Z : State} {h h' : Heap} {l : List (Addr × Int32)} {ws : List Addr} (B : own_Bn Z h l) (K : Keep h h' ws) (q : ∀ x ∈ l, x.1 ∉ ws) : own_Bn Z h' l := fun x hx => ⟨(B x hx).1.keep K, (B x hx).2.keep K (q x hx)⟩
theorem own_Bn_exa {Z : State} {h : Heap} {l : List (Addr × Int32)} {a : Addr} {v : Int32} (B : own_Bn Z h l) (q : (a, v) ∈ l) : Exa Z h a "java/lang/Integer" := (B _ q).1
theorem own_Bn_fld {Z : State} {h : Heap} {l : List (Addr × Int32)} {a : Addr} {v : Int32} (B : own_Bn Z h l) (q : (a, v) ∈ l) : Fld Z h a "java/lang/Integer" "value" "I" (.int v) := (B _ q).2
theorem own_Bn_nil (Z : State) (h : Heap) : own_Bn Z h [] := fun _ q => nomatch q
theorem own_Bn_cons {Z : State} {h : Heap} {l : List (Addr × Int32)} {a : Addr} {v : Int32} (E : Exa Z h a "java/lang/Integer") (F : Fld Z h a "java/lang/Integer" "value" "I" (.int v)) (B : own_Bn Z h l) : own_Bn Z h ((a, v) :: l) := fun x hx => by
  rcases List.mem_cons.mp hx with rfl | q
  · exact ⟨E, F⟩
  · exact B x q
theorem own_stB {Z : State} {h : Heap} {a : Addr} {L : List Value} {p : Program} {l : Launch} {e : Env} {R : Room} {s : State} {m : MethodId} {args : Array Value} {below : List Frame} {meth : Method} {c : Code} {T : State} {locs : List Loc} {cells slots : Nat}
    (X : Stand p l e R s m args below meth c T locs cells slots) (hx : p.tables.exec = Jvm.exec) (hZ : Z.Warmed39 s.vm) (eT : T.heap = h) (F : own_Ar Z h a .byte L) {j x : Int32} {i : Nat} (hi : j.toNatClampNeg = i) (hj : ¬ j < 0) (hl : i < L.length) (hn : nar .byte x = x) {L' : List Value} (hL : L.set i (.int x) = L')
    {g : JFrame} (hg : g.method = m) {rest : List Value} (hs : g.stack = .int x :: .int j :: .ref a :: rest) (hd : decode c.code g.pc = .ok (.bastore, 1)) :
    ∃ T' h', Stand p l e R s m args below meth c T' (locs ++ [⟨a, i⟩]) cells slots ∧ T'.heap = h' ∧ Wr h h' a i (.int x) ∧ own_Ar Z h' a .byte L' ∧ ∀ target, Steps p.tables e below (T'.setTop { g with pc := g.pc + 1, stack := rest }) target → Steps p.tables e below (T.setTop g) target := by
  subst hi
  obtain ⟨cl, A, r⟩ := F
  obtain ⟨T', h', X', e', W, st⟩ := stB X hx hZ eT A (own_in_of r hj hl) hg hs hd
  rw [hn] at W
  exact ⟨T', h', X', e', W, own_Ar_same ⟨cl, A, r⟩ W hL, st⟩
theorem own_arv_of {Z : State} {h : Heap} {a : Addr} {ty : FieldType} {L : List Value} {z : Int32} {dv : Value} (F : own_Ar Z h a ty L) (hz : z.toNatClampNeg = L.length) (h0 : ¬ z < 0) (hf : ∀ v ∈ L, fits ty v = true) : ∃ k, Arv Z h a k ty z L dv := by
  obtain ⟨c, A, r⟩ := F
  have hs : c.slots.size = L.length := by rw [← r]; simp
  refine ⟨c.cls, c, A, rfl, by rw [hz, hs], h0, fun i hi => ?_, fun i hi => ?_⟩
  · have hi' : i < L.length := by rw [← hs]; exact hi
    refine own_at_of r ?_
    rw [List.getElem?_eq_getElem hi', List.getD_eq_getElem?_getD, List.getElem?_eq_getElem hi']; rfl
  · have hi' : i < L.length := by rw [← hs]; exact hi
    rw [List.getD_eq_getElem?_getD, List.getElem?_eq_getElem hi']
    exact hf _ (List.getElem_mem hi')
theorem own_ar_of {Z : State} {h : Heap} {a : Addr} {k : ClassId} {ty : FieldType} {L : List Value} {z : Int32} {dv : Value} (F : Arv Z h a k ty z L dv) (hz : z.toNatClampNeg = L.length) : own_Ar Z h a ty L := by
  obtain ⟨c, A, -, hs, -, H, -⟩ := F
  refine ⟨c, A, ?_⟩
  apply List.ext_getElem?
  intro i
  by_cases hi : i < c.slots.size
  · have q := H i hi
    have hi' : i < L.length := by rw [← hz, ← hs]; exact hi
    rw [List.getD_eq_getElem?_getD, List.getElem?_eq_getElem hi'] at q
    rw [List.getElem?_eq_getElem hi', Array.getElem?_toList]
    exact q
  · have h1 : c.slots.toList[i]? = none := by rw [List.getElem?_eq_none_iff]; simpa using hi
    have h2 : L[i]? = none := by rw [List.getElem?_eq_none_iff, ← hz, ← hs]; omega
    rw [h1, h2]
/-! own layer: bodies that load String constants: the Stand is over (s.setVm vm), ReturnedEndW ends them -/
theorem own_since0 (s : State) (n : Nat) : s.Since s.vm n := (State.WarmedH.refl s).since n
section OwnW
variable {p : Program} {l : Launch} {e : Env} {R : Room} {s : State} {vm : Vm} {m : MethodId} {args : Array Value} {below : List Frame} {meth : Method} {c : Code} {T : State} {locs : List Loc} {cells slots : Nat} {kk : Nat}
theorem own_retW (X : Stand p l e R (s.setVm vm) m args below meth c T locs cells slots) (hx : p.tables.exec = Jvm.exec) (hlk : meth.locks = false) (hS : s.Since vm kk) (hk : kk ≤ T.heap.size) {K N pc : Nat} {Ls : Array Slot} {w : Value} {t : FieldType} {i : Instr} {rest : List Value} {Q : Option Value → Heap → List Loc → Prop} (hret : meth.sig.returnType = some t) (hn : narrow t w = w)
    (hi : (i = .ireturn ∧ (t = .int ∨ t = .boolean ∨ t = .byte ∨ t = .char ∨ t = .short) ∧ ∃ z, w = .int z) ∨ (i = .lreturn ∧ t = .long ∧ ∃ z, w = .long z) ∨ (i = .dreturn ∧ t = .double ∧ ∃ z, w = .double z) ∨ (i = .freturn ∧ t = .float ∧ ∃ z, w = .float z) ∨ (i = .areturn ∧ t.isReference = true ∧ w.isRef = true))
    (hd : decode c.code pc = .ok (i, 1)) (hK : cells ≤ K) (hN : slots ≤ N) (hQ : Q (some w) T.heap locs) :
    own_G p.tables e below (fun o U' => ∃ v L, o = .returned v ∧ Q v U'.heap L ∧ ReturnedEndW s o U' L K N) (T.setTop (mkF m pc Ls (w :: rest))) := by
  obtain ⟨fs, hr, hrun, hended, a, b, d, f⟩ := X.leaveW hS hk (v := some w) (fun h => by rw [hret] at h; cases h) hlk
  exact ⟨_, _, retOut X hx hret hn hi hd hr, hrun, hended, _, _, rfl, hQ, a, b, d, f.mono hK hN⟩
theorem own_retWI (X : Stand p l e R (s.setVm vm) m args below meth c T locs cells slots) (hx : p.tables.exec = Jvm.exec) (hlk : meth.locks = false) (hS : s.Since vm kk) (hk : kk ≤ T.heap.size) {K N pc : Nat} {Ls : Array Slot} {z : Int32} {rest : List Value} {Q : Option Value → Heap → List Loc → Prop} (hret : meth.sig.returnType = some .int)
    (hd : decode c.code pc = .ok (.ireturn, 1)) (hK : cells ≤ K) (hN : slots ≤ N) (hQ : Q (some (.int z)) T.heap locs) :
    own_G p.tables e below (fun o U' => ∃ v L, o = .returned v ∧ Q v U'.heap L ∧ ReturnedEndW s o U' L K N) (T.setTop (mkF m pc Ls (.int z :: rest))) :=
  own_retW X hx hlk hS hk hret rfl (Or.inl ⟨rfl, Or.inl rfl, z, rfl⟩) hd hK hN hQ
theorem own_retWZ (X : Stand p l e R (s.setVm vm) m args below meth c T locs cells slots) (hx : p.tables.exec = Jvm.exec) (hlk : meth.locks = false) (hS : s.Since vm kk) (hk : kk ≤ T.heap.size) {K N pc : Nat} {Ls : Array Slot} {z : Int32} {rest : List Value} {Q : Option Value → Heap → List Loc → Prop} (hret : meth.sig.returnType = some .boolean)
    (hd : decode c.code pc = .ok (.ireturn, 1)) (hz : z = 0 ∨ z = 1) (hK : cells ≤ K) (hN : slots ≤ N) (hQ : Q (some (.int z)) T.heap locs) :
    own_G p.tables e below (fun o U' => ∃ v L, o = .returned v ∧ Q v U'.heap L ∧ ReturnedEndW s o U' L K N) (T.setTop (mkF m pc Ls (.int z :: rest))) :=
  own_retW X hx hlk hS hk hret (by rcases hz with rfl | rfl <;> rfl) (Or.inl ⟨rfl, Or.inr (Or.inl rfl), z, rfl⟩) hd hK hN hQ
theorem own_retWA (X : Stand p l e R (s.setVm vm) m args below meth c T locs cells slots) (hx : p.tables.exec = Jvm.exec) (hlk : meth.locks = false) (hS : s.Since vm kk) (hk : kk ≤ T.heap.size) {K N pc : Nat} {Ls : Array Slot} {w : Value} {t : FieldType} {rest : List Value} {Q : Option Value → Heap → List Loc → Prop} (hret : meth.sig.returnType = some t) (ht : t.isReference = true) (hw : w.isRef = true)
    (hd : decode c.code pc = .ok (.areturn, 1)) (hK : cells ≤ K) (hN : slots ≤ N) (hQ : Q (some w) T.heap locs) :
    own_G p.tables e below (fun o U' => ∃ v L, o = .returned v ∧ Q v U'.heap L ∧ ReturnedEndW s o U' L K N) (T.setTop (mkF m pc Ls (w :: rest))) :=
  own_retW X hx hlk hS hk hret (by cases t <;> first | (cases ht; done) | (rcases ref_cases hw with rfl | ⟨z, rfl⟩ <;> rfl)) (Or.inr (Or.inr (Or.inr (Or.inr ⟨rfl, ht, hw⟩)))) hd hK hN hQ
theorem own_retWV (X : Stand p l e R (s.setVm vm) m args below meth c T locs cells slots) (hx : p.tables.exec = Jvm.exec) (hlk : meth.locks = false) (hS : s.Since vm kk) (hk : kk ≤ T.heap.size) {K N pc : Nat} {Ls : Array Slot} {Q : Option Value → Heap → List Loc → Prop} (hret : meth.sig.returnType = none)
    (hd : decode c.code pc = .ok (.return_, 1)) (hK : cells ≤ K) (hN : slots ≤ N) (hQ : Q none T.heap locs) :
    own_G p.tables e below (fun o U' => ∃ v L, o = .returned v ∧ Q v U'.heap L ∧ ReturnedEndW s o U' L K N) (T.setTop (mkF m pc Ls [])) := by
  obtain ⟨fs, hr, hrun, hended, a, b, d, f⟩ := X.leaveW hS hk (v := none) (fun _ => rfl) hlk
  exact ⟨_, _, X.returnOut hx hret hd hr, hrun, hended, _, _, rfl, hQ, a, b, d, f.mono hK hN⟩
end OwnW
/-! own layer: int arrays of which only the length is known -/
def own_An (Z : State) (h : Heap) (a : Addr) (N : Nat) : Prop := ∃ c : Cell, Arr Z h a c .int ∧ c.slots.size = N
section OwnAn
variable {Z : State} {h h' : Heap} {a b : Addr} {N : Nat}
theorem own_An_new {cA : ClassId} {n : Int32} (A : Arr Z h a (newA cA .int n) .int) (hN : n.toNatClampNeg = N) : own_An Z h a N := ⟨_, A, by rw [sz_new, hN]⟩
theorem own_An_ext (F : own_An Z h a N) (E : Ext h h') : own_An Z h' a N := by obtain ⟨c, A, r⟩ := F; exact ⟨c, A.ext E, r⟩
theorem own_An_other {sl : Nat} {v : Value} (F : own_An Z h b N) (W : Wr h h' a sl v) (q : b ≠ a) : own_An Z h' b N := by obtain ⟨c, A, r⟩ := F; exact ⟨c, A.other W q, r⟩
theorem own_An_keep {ws : List Addr} (F : own_An Z h a N) (K : Keep h h' ws) (q : a ∉ ws) : own_An Z h' a N := by obtain ⟨c, A, r⟩ := F; exact ⟨c, ⟨K.2.1 a c A.1 q, A.2⟩, r⟩
theorem own_An_lt (F : own_An Z h a N) : a < h.size := by obtain ⟨c, A, -⟩ := F; exact A.lt
theorem own_An_same {i : Nat} {v : Value} (F : own_An Z h a N) (W : Wr h h' a i v) : own_An Z h' a N := by
  obtain ⟨c, A, r⟩ := F
  exact ⟨_, A.same W, by rw [sz_set]; exact r⟩
variable {p : Program} {l : Launch} {e : Env} {R : Room} {s : State} {m : MethodId} {args : Array Value} {below : List Frame} {meth : Method} {c : Code} {T : State} {locs : List Loc} {cells slots : Nat}
theorem own_stN (X : Stand p l e R s m args below meth c T locs cells slots) (hx : p.tables.exec = Jvm.exec) (hZ : Z.Warmed39 s.vm) (eT : T.heap = h) (F : own_An Z h a N) {j x : Int32} (hj : ¬ j < 0) (hl : j.toNatClampNeg < N)
    {g : JFrame} (hg : g.method = m) {rest : List Value} (hs : g.stack = .int x :: .int j :: .ref a :: rest) (hd : decode c.code g.pc = .ok (.iastore, 1)) :
    ∃ T' h', Stand p l e R s m args below meth c T' (locs ++ [⟨a, j.toNatClampNeg⟩]) cells slots ∧ T'.heap = h' ∧ Wr h h' a j.toNatClampNeg (.int x) ∧ own_An Z h' a N ∧ ∀ target, Steps p.tables e below (T'.setTop { g with pc := g.pc + 1, stack := rest }) target → Steps p.tables e below (T.setTop g) target := by
  obtain ⟨cl, A, r⟩ := F
  obtain ⟨T', h', X', e', W, st⟩ := stI X hx hZ eT A (fun q => q.elim hj (fun z => by rw [r] at z; exact absurd hl (Nat.not_lt.mpr z))) hg hs hd
  exact ⟨T', h', X', e', W, own_An_same ⟨cl, A, r⟩ W, st⟩
theorem own_alenN (X : Stand p l e R s m args below meth c T locs cells slots) (hx : p.tables.exec = Jvm.exec) (hZ : Z.Warmed39 s.vm) (eT : T.heap = h) (F : own_An Z h a N) {g : JFrame} (hg : g.method = m) {rest : List Value} (hs : g.stack = .ref a :: rest) (hd : decode c.code g.pc = .ok (.arraylength, 1)) :
    ∀ target, Steps p.tables e below (T.setTop { g with pc := g.pc + 1, stack := .int N.toInt32 :: rest }) target → Steps p.tables e below (T.setTop g) target := by
  obtain ⟨cl, A, r⟩ := F
  rw [← r]
  exact fun t k => X.arraylength hx (by rw [eT]; exact A.1) (State.isArrayOf_alike hZ.alike A.2.1) hg hs hd t k
end OwnAn
theorem own_notinst {Z : State} {a0 : Array Value} {O K : String} {n : Nat} (w : (Jvm.Cond.noSuperclass O).before a0 Z = true) (wi : (Jvm.Cond.instantiable K n).before a0 Z = true) (hn : O ≠ K) : NS Z O K := by
  obtain ⟨t, kt, g1, g2, -⟩ := Cond.instantiable_spec wi
  obtain ⟨c, k, h1, h2, h3, -⟩ := Cond.noSuperclass_spec w
  have hne : c ≠ t := ids_ne h1 g1 hn
  refine ⟨c, t, h1, g1, ?_⟩
  intro fuel
  induction fuel with
  | zero => rfl
  | succ f _ => simp [Vm.isSubclassAux, hne, h2, h3]
theorem own_noasg {Z : State} {a0 : Array Value} {C S K : String} {n : Nat} (w : (Jvm.Cond.superclass C S).before a0 Z = true) (wi : (Jvm.Cond.instantiable K n).before a0 Z = true) (q : NS Z C K) (hn : C ≠ K) : ∃ c t, Z.vm.findClass C = some c ∧ Z.vm.findClass K = some t ∧ Z.vm.assignable c t = false := by
  obtain ⟨c, t, h0, g0, n3⟩ := q
  obtain ⟨t', kt, g1, g2, g3, g4, -⟩ := Cond.instantiable_spec wi
  cases g0.symm.trans g1
  obtain ⟨p, k, kp, h1, h2, h3, h4, h5, -, h7⟩ := Cond.superclass_spec h0 w
  have hne : c ≠ t := ids_ne h0 g0 hn
  have g5 : kt.isInterface = false := by simp only [Bool.or_eq_false_iff] at g4; exact g4.1
  refine ⟨c, t, h0, g0, ?_⟩
  show Z.vm.assignableAux (255 + 1) c t = false
  simp [Vm.assignableAux, hne, h2, g2, h5, g3, g5, Vm.isSubclass, n3]
theorem own_selp {Z s : State} {a0 args : Array Value} {y : MethodName} {n : Nat} (hZ : Z.Warmed39 s.vm) (wi : (Jvm.Cond.instantiable y.cls n).before a0 Z = true) (wp : (Jvm.Cond.privateMethod y).before a0 Z = true) (wm : (Jvm.Cond.instanceMethod y).before a0 Z = true) (hy : y.cls ≠ "java/lang/invoke/MethodHandle" ∧ y.cls ≠ "java/lang/invoke/VarHandle") : (Jvm.Cond.selects y.cls y y).before args s = true := by
  obtain ⟨c, k, h1, h2, -, h4, -⟩ := Cond.instantiable_spec (mv (args := args) hZ wi)
  simp only [Bool.or_eq_false_iff] at h4
  exact selects_self_of_private h1 h2 h4.1 (Cond.privateMethod_at (mvP hZ wp (args := args))) (mv hZ wm) hy
abbrev own_y1 : MethodName := ⟨"com/example/honeybee/honeybee/device/DerReader", "<init>", "([BII)V"⟩
abbrev own_y2 : MethodName := ⟨"com/example/honeybee/honeybee/device/DerReader", "header", "(ILjava/lang/String;)I"⟩
abbrev own_y3 : MethodName := ⟨"java/util/Arrays", "checkLength", "(II)V"⟩
abbrev own_y4 : MethodName := ⟨"java/lang/Math", "min", "(II)I"⟩
abbrev own_y5 : MethodName := ⟨"java/util/Arrays", "copyOfRangeByte", "([BII)[B"⟩
abbrev own_y6 : MethodName := ⟨"java/util/Arrays", "copyOfRange", "([BII)[B"⟩
abbrev own_y7 : MethodName := ⟨"com/example/honeybee/honeybee/device/DerReader", "<init>", "([B)V"⟩
abbrev own_y8 : MethodName := ⟨"com/example/honeybee/honeybee/device/DerReader", "nullValue", "()V"⟩
abbrev own_y9 : MethodName := ⟨"com/example/honeybee/honeybee/device/DerReader", "objectIdentifier", "()[B"⟩
abbrev own_y10 : MethodName := ⟨"com/example/honeybee/honeybee/device/DerReader", "atEnd", "()Z"⟩
theorem own_pd1 : parseMethodDescriptor "([BII)V" = some ⟨[(.array .byte), .int, .int], none⟩ := by decide +kernel
theorem own_pd2 : parseMethodDescriptor "(ILjava/lang/String;)I" = some ⟨[.int, (.object "java/lang/String")], (some .int)⟩ := by decide +kernel
theorem own_pd3 : parseMethodDescriptor "(II)V" = some ⟨[.int, .int], none⟩ := by decide +kernel
theorem own_pd4 : parseMethodDescriptor "(II)I" = some ⟨[.int, .int], (some .int)⟩ := by decide +kernel
theorem own_pd5 : parseMethodDescriptor "([BII)[B" = some ⟨[(.array .byte), .int, .int], (some (.array .byte))⟩ := by decide +kernel
theorem own_pd6 : parseMethodDescriptor "([B)V" = some ⟨[(.array .byte)], none⟩ := by decide +kernel
theorem own_pd7 : parseMethodDescriptor "()V" = some ⟨[], none⟩ := by decide +kernel
theorem own_pd8 : parseMethodDescriptor "()[B" = some ⟨[], (some (.array .byte))⟩ := by decide +kernel
theorem own_pd9 : parseMethodDescriptor "()Z" = some ⟨[], (some .boolean)⟩ := by decide +kernel

def own_min (x y : Int32) : Int32 := if y < x then y else x
def own_max (x y : Int32) : Int32 := if x < y then y else x
theorem own_min_spec (x y : Int32) : (own_min x y).toInt = min x.toInt y.toInt := by
  unfold own_min
  split
  · rename_i h; rw [Int32.lt_iff_toInt_lt] at h; omega
  · rename_i h; rw [Int32.lt_iff_toInt_lt] at h; omega
theorem own_max_spec (x y : Int32) : (own_max x y).toInt = max x.toInt y.toInt := by
  unfold own_max
  split
  · rename_i h; rw [Int32.lt_iff_toInt_lt] at h; omega
  · rename_i h; rw [Int32.lt_iff_toInt_lt] at h; omega

def own_eqr (x y : Int32) : Int32 := if x = y then 1 else 0
theorem own_i2b (x : Int32) : nar .byte x.toInt8.toInt32 = x.toInt8.toInt32 := by simp [nar]
theorem own_hws {Z : State} {a0 : Array Value} (hw : ∀ d ∈ tables_1, d.before a0 Z = true) : ∀ a ∈ Bundle.stringAtoms, a.before a0 Z = true := by
  intro a ha
  simp only [Bundle.stringAtoms, List.mem_cons, List.not_mem_nil, or_false] at ha
  rcases ha with rfl | rfl | rfl | rfl | rfl | rfl | rfl
  · exact hw _ (List.mem_of_getElem? (i := 25) rfl)
  · exact hw _ (List.mem_of_getElem? (i := 26) rfl)
  · exact hw _ (List.mem_of_getElem? (i := 0) rfl)
  · exact hw _ (List.mem_of_getElem? (i := 27) rfl)
  · exact hw _ (List.mem_of_getElem? (i := 28) rfl)
  · exact hw _ (List.mem_of_getElem? (i := 29) rfl)
  · exact hw _ (List.mem_of_getElem? (i := 30) rfl)

theorem own_fits5 {xx : Int32} (h : fits .byte (.int xx) = true) : ∀ v ∈ ([(.int (5 : Int32)), (.int (0 : Int32)), (.int (6 : Int32)), (.int (1 : Int32)), (.int xx)] : List Value), fits .byte v = true := by
  intro v hv
  simp only [List.mem_cons, List.not_mem_nil, or_false] at hv
  rcases hv with rfl | rfl | rfl | rfl | rfl
  · decide
  · decide
  · decide
  · decide
  · exact h
theorem own_fits1 : ∀ v ∈ ([(.int (0 : Int32))] : List Value), fits .byte v = true := by
  intro v hv
  simp only [List.mem_cons, List.not_mem_nil, or_false] at hv
  subst hv
  decide

theorem own_mmin_d0 : decode jdk_29_method_69_code 0 = .ok (.iload_n 0, 1) := by decide +kernel
theorem own_mmin_d1 : decode jdk_29_method_69_code 1 = .ok (.iload_n 1, 1) := by decide +kernel
theorem own_mmin_d2 : decode jdk_29_method_69_code 2 = .ok (.if_icmp .gt 7, 3) := by decide +kernel
theorem own_mmin_d5 : decode jdk_29_method_69_code 5 = .ok (.iload_n 0, 1) := by decide +kernel
theorem own_mmin_d6 : decode jdk_29_method_69_code 6 = .ok (.goto 4, 3) := by decide +kernel
theorem own_mmin_d9 : decode jdk_29_method_69_code 9 = .ok (.iload_n 1, 1) := by decide +kernel
theorem own_mmin_d10 : decode jdk_29_method_69_code 10 = .ok (.ireturn, 1) := by decide +kernel
theorem own_mmin_ef (m : MethodId) (pa : Int32) (pb : Int32) : entryFrame m #[(.int pa), (.int pb)] 2 = mkF m 0 #[iv pa, iv pb] [] := by first | (simp [entryFrame, mkF, argsToLocals, Value.category]; done) | rfl
def own_mmin_Q (Z : State) (pa : Int32) (pb : Int32) (h0 : Heap) (n0 : Nat) (v : Option Value) (h : Heap) (L : List Loc) : Prop := v = some (.int (own_min pa pb)) ∧ Fr n0 L ∧ h = h0
set_option maxRecDepth 65536 in
set_option maxHeartbeats 40000000 in
theorem own_mmin (l : Launch) (Z : State) (a0 : Array Value) (hw : ∀ d ∈ tables_1, d.before a0 Z = true) (ws : List Jvm.Cond) (pa : Int32) (pb : Int32) (h0 : Heap) (n0 : Nat) :
    MetFree l own_y4 (head1 (Jvm.Cond.code own_y4 jdk_29_method_69_code 2 (some .int) :: ws) ({ frames := 0, cells := 0, slots := 0, locals := 0 } : Room)) (fun a U => a = #[(.int pa), (.int pb)] ∧ Z.Warmed39 U.vm ∧ U.heap = h0) (fun _ _ _ _ _ => True) (fun _ U o U' => ∃ v L, o = .returned v ∧ (own_mmin_Q Z pa pb h0 n0) v U'.heap L ∧ FrameEnd U o U' L ({ frames := 0, cells := 0, slots := 0, locals := 0 } : Room).cells ({ frames := 0, cells := 0, slots := 0, locals := 0 } : Room).slots) := by
  refine MetFree.of_bodySF (Jvm.Free.JP.mathPlain rfl (by decide +kernel)) hisR ?_
  intro p e s m args below meth c s₁ Bd hml0 hP hK
  obtain ⟨rfl, hZ, hh⟩ := hP
  have hx := Bd.exec
  have hby := Bd.bytes
  have hml : c.maxLocals = 2 := hml0
  have hown : s.vm.findClass "java/lang/Math" = some m.cls := findClass_of_methodNamed Bd.named
  have hnm := (name_of_methodNamed Bd.named Bd.method).1
  have hlk : meth.locks = false := Bd.notSynchronized
  have X0 : Stand p l e ({ frames := 0, cells := 0, slots := 0, locals := 0 } : Room) s m #[(.int pa), (.int pb)] below meth c s₁ [] 0 0 := Stand.of_body Bd
  have e0 : s₁.heap = h0 := by rw [← hh, Bd.state]; rfl
  have N0 := Fr.nil n0
  show own_G p.tables e below (fun o U' => ∃ v L, o = .returned v ∧ (own_mmin_Q Z pa pb h0 n0) v U'.heap L ∧ FrameEnd s o U' L ({ frames := 0, cells := 0, slots := 0, locals := 0 } : Room).cells ({ frames := 0, cells := 0, slots := 0, locals := 0 } : Room).slots) (s₁.setTop (entryFrame m #[(.int pa), (.int pb)] 2))
  refine own_go (B := s₁.setTop (mkF m 0 #[iv pa, iv pb] [])) (fun t k => castTop (own_mmin_ef m pa pb) k) ?_
  refine own_go (B := (s₁.setTop (mkF m 1 #[iv pa, iv pb] [(.int pa)]))) (fun t k => XS.iloadN X0.here hx rfl (hb hby own_mmin_d0) rfl k) ?_
  refine own_go (B := (s₁.setTop (mkF m 2 #[iv pa, iv pb] [(.int pb), (.int pa)]))) (fun t k => XS.iloadN X0.here hx rfl (hb hby own_mmin_d1) rfl k) ?_
  refine own_icmp X0 hx (hb hby own_mmin_d2) (pc' := 9) (pn := 5) (by decide) (by decide) rfl (fun (hc2 : pb < pa) => ?_) (fun (hc2 : ¬ pb < pa) => ?_)
  · refine own_go (B := (s₁.setTop (mkF m 10 #[iv pa, iv pb] [(.int pb)]))) (fun t k => XS.iloadN X0.here hx rfl (hb hby own_mmin_d9) rfl k) ?_
    exact own_retI X0 hx hlk Bd.returns (hb hby own_mmin_d10) (own_b rfl) (own_b rfl) (Q := (own_mmin_Q Z pa pb h0 n0)) ⟨by rw [own_min, if_pos hc2], N0, e0⟩
  · refine own_go (B := (s₁.setTop (mkF m 6 #[iv pa, iv pb] [(.int pa)]))) (fun t k => XS.iloadN X0.here hx rfl (hb hby own_mmin_d5) rfl k) ?_
    refine own_go (B := (s₁.setTop (mkF m 10 #[iv pa, iv pb] [(.int pa)]))) (fun t k => XS.goto X0.here hx rfl (pc0 := 6) (pc' := 10) rfl (hb hby own_mmin_d6) (by decide) (by decide) k) ?_
    exact own_retI X0 hx hlk Bd.returns (hb hby own_mmin_d10) (own_b rfl) (own_b rfl) (Q := (own_mmin_Q Z pa pb h0 n0)) ⟨by rw [own_min, if_neg hc2], N0, e0⟩

theorem own_ct3_d0 : decode prog_1_method_2_code 0 = .ok (.aload_n 0, 1) := by decide +kernel
theorem own_ct3_d1 : decode prog_1_method_2_code 1 = .ok (.invokespecial 7, 3) := by decide +kernel
theorem own_ct3_d4 : decode prog_1_method_2_code 4 = .ok (.aload_n 0, 1) := by decide +kernel
theorem own_ct3_d5 : decode prog_1_method_2_code 5 = .ok (.aload_n 1, 1) := by decide +kernel
theorem own_ct3_d6 : decode prog_1_method_2_code 6 = .ok (.putfield 12, 3) := by decide +kernel
theorem own_ct3_d9 : decode prog_1_method_2_code 9 = .ok (.aload_n 0, 1) := by decide +kernel
theorem own_ct3_d10 : decode prog_1_method_2_code 10 = .ok (.iload_n 2, 1) := by decide +kernel
theorem own_ct3_d11 : decode prog_1_method_2_code 11 = .ok (.putfield 16, 3) := by decide +kernel
theorem own_ct3_d14 : decode prog_1_method_2_code 14 = .ok (.aload_n 0, 1) := by decide +kernel
theorem own_ct3_d15 : decode prog_1_method_2_code 15 = .ok (.iload_n 3, 1) := by decide +kernel
theorem own_ct3_d16 : decode prog_1_method_2_code 16 = .ok (.putfield 20, 3) := by decide +kernel
theorem own_ct3_d19 : decode prog_1_method_2_code 19 = .ok (.return_, 1) := by decide +kernel
theorem own_ct3_pn : plainName "com/example/honeybee/honeybee/device/DerReader" = true := by first | (simp [plainName, overriddenIn]; done) | decide +kernel
theorem own_ct3_ef (m : MethodId) (th : Addr) (pb : Addr) (ps : Int32) (pe : Int32) : entryFrame m #[(.ref th), (.ref pb), (.int ps), (.int pe)] 4 = mkF m 0 #[rv th, rv pb, iv ps, iv pe] [] := by first | (simp [entryFrame, mkF, argsToLocals, Value.category]; done) | rfl
def own_ct3_Q (Z : State) (th : Addr) (pb : Addr) (ps : Int32) (pe : Int32) (h0 : Heap) (n0 : Nat) (v : Option Value) (h : Heap) (L : List Loc) : Prop := v = none ∧ Fr n0 L ∧ Keep h0 h [th] ∧ Exa Z h th "com/example/honeybee/honeybee/device/DerReader" ∧ Fld Z h th "com/example/honeybee/honeybee/device/DerReader" "bytes" "[B" (.ref pb) ∧ Fld Z h th "com/example/honeybee/honeybee/device/DerReader" "position" "I" (.int ps) ∧ Fld Z h th "com/example/honeybee/honeybee/device/DerReader" "end" "I" (.int pe)
set_option maxRecDepth 65536 in
set_option maxHeartbeats 40000000 in
theorem own_ct3 (l : Launch) (Z : State) (a0 : Array Value) (hw : ∀ d ∈ tables_1, d.before a0 Z = true) (ws : List Jvm.Cond) (th : Addr) (pb : Addr) (ps : Int32) (pe : Int32) (h0 : Heap) (n0 : Nat) (Z0 : n0 ≤ h0.size) (E0 : Exa Z h0 th "com/example/honeybee/honeybee/device/DerReader") (g0 : n0 ≤ th) (F9000 : Fld Z h0 th "com/example/honeybee/honeybee/device/DerReader" "bytes" "[B" .null) (F9001 : Fld Z h0 th "com/example/honeybee/honeybee/device/DerReader" "position" "I" (.int (0 : Int32))) (F9002 : Fld Z h0 th "com/example/honeybee/honeybee/device/DerReader" "end" "I" (.int (0 : Int32))) :
    MetFree l own_y1 (head1 (Jvm.Cond.code own_y1 prog_1_method_2_code 4 none :: ws) ({ frames := 1, cells := 0, slots := 0, locals := 12 } : Room)) (fun a U => a = #[(.ref th), (.ref pb), (.int ps), (.int pe)] ∧ Z.Warmed39 U.vm ∧ U.heap = h0) (fun _ _ _ _ _ => True) (fun _ U o U' => ∃ v L, o = .returned v ∧ (own_ct3_Q Z th pb ps pe h0 n0) v U'.heap L ∧ FrameEnd U o U' L ({ frames := 1, cells := 0, slots := 0, locals := 12 } : Room).cells ({ frames := 1, cells := 0, slots := 0, locals := 12 } : Room).slots) := by
  refine MetFree.of_bodySF (plainFor_of_name own_ct3_pn) hisR ?_
  intro p e s m args below meth c s₁ Bd hml0 hP hK
  obtain ⟨rfl, hZ, hh⟩ := hP
  have hx := Bd.exec
  have hby := Bd.bytes
  have hml : c.maxLocals = 4 := hml0
  have hown : s.vm.findClass "com/example/honeybee/honeybee/device/DerReader" = some m.cls := findClass_of_methodNamed Bd.named
  have hnm := (name_of_methodNamed Bd.named Bd.method).1
  have hlk : meth.locks = false := Bd.notSynchronized
  have X0 : Stand p l e ({ frames := 1, cells := 0, slots := 0, locals := 12 } : Room) s m #[(.ref th), (.ref pb), (.int ps), (.int pe)] below meth c s₁ [] 0 0 := Stand.of_body Bd
  have e0 : s₁.heap = h0 := by rw [← hh, Bd.state]; rfl
  have N0 := Fr.nil n0
  have w_2 := hw _ (List.mem_of_getElem? (l := tables_1) (i := 2) rfl)
  have w_10 := hw _ (List.mem_of_getElem? (l := tables_1) (i := 10) rfl)
  have w_11 := hw _ (List.mem_of_getElem? (l := tables_1) (i := 11) rfl)
  have w_12 := hw _ (List.mem_of_getElem? (l := tables_1) (i := 12) rfl)
  have w_13 := hw _ (List.mem_of_getElem? (l := tables_1) (i := 13) rfl)
  have w_14 := hw _ (List.mem_of_getElem? (l := tables_1) (i := 14) rfl)
  have w_15 := hw _ (List.mem_of_getElem? (l := tables_1) (i := 15) rfl)
  have w_16 := hw _ (List.mem_of_getElem? (l := tables_1) (i := 16) rfl)
  have w_17 := hw _ (List.mem_of_getElem? (l := tables_1) (i := 17) rfl)
  have w_18 := hw _ (List.mem_of_getElem? (l := tables_1) (i := 18) rfl)
  show own_G p.tables e below (fun o U' => ∃ v L, o = .returned v ∧ (own_ct3_Q Z th pb ps pe h0 n0) v U'.heap L ∧ FrameEnd s o U' L ({ frames := 1, cells := 0, slots := 0, locals := 12 } : Room).cells ({ frames := 1, cells := 0, slots := 0, locals := 12 } : Room).slots) (s₁.setTop (entryFrame m #[(.ref th), (.ref pb), (.int ps), (.int pe)] 4))
  refine own_go (B := s₁.setTop (mkF m 0 #[rv th, rv pb, iv ps, iv pe] [])) (fun t k => castTop (own_ct3_ef m th pb ps pe) k) ?_
  have K0 := Keep.refl h0 [th]
  refine own_go (B := (s₁.setTop (mkF m 1 #[rv th, rv pb, iv ps, iv pe] [(.ref th)]))) (fun t k => XS.aloadN X0.here hx rfl (hb hby own_ct3_d0) rfl rfl k) ?_
  obtain ⟨T1, X1, e1, st1⟩ := initO X0 hx hZ hown w_10 w_11 w_12 e0 (g := (mkF m 1 #[rv th, rv pb, iv ps, iv pe] [(.ref th)])) rfl (by rw [hml]; rfl) rfl (hb hby own_ct3_d1) (by decide) (W := 0) (by show 2 * 0 + _ ≤ _; exact own_b rfl) (by decide)
  refine own_go (B := (T1.setTop (mkF m 4 #[rv th, rv pb, iv ps, iv pe] []))) st1 ?_
  refine own_go (B := (T1.setTop (mkF m 5 #[rv th, rv pb, iv ps, iv pe] [(.ref th)]))) (fun t k => XS.aloadN X1.here hx rfl (hb hby own_ct3_d4) rfl rfl k) ?_
  refine own_go (B := (T1.setTop (mkF m 6 #[rv th, rv pb, iv ps, iv pe] [(.ref pb), (.ref th)]))) (fun t k => XS.aloadN X1.here hx rfl (hb hby own_ct3_d5) rfl rfl k) ?_
  obtain ⟨T2, h2, X2, e2, W2, st2⟩ := putF X1 hx hZ hown (host := "") (Or.inl w_13) Via.refl e1 F9000 E0 (Or.inr ⟨w_14, rfl, hnm⟩) w_2 (ty := (.array .byte)) (by decide) rfl rfl (g := (mkF m 6 #[rv th, rv pb, iv ps, iv pe] [(.ref pb), (.ref th)])) rfl rfl (hb hby own_ct3_d6)
  refine own_go (B := (T2.setTop (mkF m 9 #[rv th, rv pb, iv ps, iv pe] []))) st2 ?_
  obtain ⟨L2, X2, N2⟩ := own_abs X2 (Fr.snoc X2 N0 g0)
  have F3 : n0 ≤ h2.size := by rw [W2.size]; exact Z0
  have F4 := Exa.wr W2 E0
  have F5 := Keep.wr K0 W2 (Or.inl (List.mem_of_getElem? (i := 0) rfl))
  have F6 := Fld.same W2 F9000
  have F7 := Fld.other W2 F9001 (Or.inr (slot_ne (t := .int) (t' := (.array .byte)) (Or.inl w_16) (Or.inr w_14) (by decide) (by decide) (by decide)))
  have F8 := Fld.other W2 F9002 (Or.inr (slot_ne (t := .int) (t' := (.array .byte)) (Or.inr w_18) (Or.inr w_14) (by decide) (by decide) (by decide)))
  refine own_go (B := (T2.setTop (mkF m 10 #[rv th, rv pb, iv ps, iv pe] [(.ref th)]))) (fun t k => XS.aloadN X2.here hx rfl (hb hby own_ct3_d9) rfl rfl k) ?_
  refine own_go (B := (T2.setTop (mkF m 11 #[rv th, rv pb, iv ps, iv pe] [(.int ps), (.ref th)]))) (fun t k => XS.iloadN X2.here hx rfl (hb hby own_ct3_d10) rfl k) ?_
  obtain ⟨T9, h9, X9, e9, W9, st9⟩ := putF X2 hx hZ hown (host := "") (Or.inl w_15) Via.refl e2 F7 F4 (Or.inl w_16) w_2 (ty := .int) (by decide) rfl rfl (g := (mkF m 11 #[rv th, rv pb, iv ps, iv pe] [(.int ps), (.ref th)])) rfl rfl (hb hby own_ct3_d11)
  refine own_go (B := (T9.setTop (mkF m 14 #[rv th, rv pb, iv ps, iv pe] []))) st9 ?_
  obtain ⟨L9, X9, N9⟩ := own_abs X9 (Fr.snoc X9 N2 g0)
  have F10 : n0 ≤ h9.size := by rw [W9.size]; exact F3
  have F11 := Exa.wr W9 F4
  have F12 := Keep.wr F5 W9 (Or.inl (List.mem_of_getElem? (i := 0) rfl))
  have F13 := Fld.other W9 F6 (Or.inr (slot_ne (t := (.array .byte)) (t' := .int) (Or.inr w_14) (Or.inl w_16) (by decide) (by decide) (by decide)))
  have F14 := Fld.same W9 F7
  have F15 := Fld.other W9 F8 (Or.inr (slot_ne (t := .int) (t' := .int) (Or.inr w_18) (Or.inl w_16) (by decide) (by decide) (by decide)))
  refine own_go (B := (T9.setTop (mkF m 15 #[rv th, rv pb, iv ps, iv pe] [(.ref th)]))) (fun t k => XS.aloadN X9.here hx rfl (hb hby own_ct3_d14) rfl rfl k) ?_
  refine own_go (B := (T9.setTop (mkF m 16 #[rv th, rv pb, iv ps, iv pe] [(.int pe), (.ref th)]))) (fun t k => XS.iloadN X9.here hx rfl (hb hby own_ct3_d15) rfl k) ?_
  obtain ⟨T16, h16, X16, e16, W16, st16⟩ := putF X9 hx hZ hown (host := "") (Or.inl w_17) Via.refl e9 F15 F11 (Or.inr ⟨w_18, rfl, hnm⟩) w_2 (ty := .int) (by decide) rfl rfl (g := (mkF m 16 #[rv th, rv pb, iv ps, iv pe] [(.int pe), (.ref th)])) rfl rfl (hb hby own_ct3_d16)
  refine own_go (B := (T16.setTop (mkF m 19 #[rv th, rv pb, iv ps, iv pe] []))) st16 ?_
  obtain ⟨L16, X16, N16⟩ := own_abs X16 (Fr.snoc X16 N9 g0)
  have F17 : n0 ≤ h16.size := by rw [W16.size]; exact F10
  have F18 := Exa.wr W16 F11
  have F19 := Keep.wr F12 W16 (Or.inl (List.mem_of_getElem? (i := 0) rfl))
  have F20 := Fld.other W16 F13 (Or.inr (slot_ne (t := (.array .byte)) (t' := .int) (Or.inr w_14) (Or.inr w_18) (by decide) (by decide) (by decide)))
  have F21 := Fld.other W16 F14 (Or.inr (slot_ne (t := .int) (t' := .int) (Or.inl w_16) (Or.inr w_18) (by decide) (by decide) (by decide)))
  have F22 := Fld.same W16 F15
  exact own_retV X16 hx hlk Bd.returns (hb hby own_ct3_d19) (own_b rfl) (own_b rfl) (Q := (own_ct3_Q Z th pb ps pe h0 n0)) (by rw [e16]; exact ⟨rfl, N16, F19, F18, F20, F21, F22⟩)

theorem own_ct1_d0 : decode prog_1_method_1_code 0 = .ok (.aload_n 0, 1) := by decide +kernel
theorem own_ct1_d1 : decode prog_1_method_1_code 1 = .ok (.aload_n 1, 1) := by decide +kernel
theorem own_ct1_d2 : decode prog_1_method_1_code 2 = .ok (.iconst 0, 1) := by decide +kernel
theorem own_ct1_d3 : decode prog_1_method_1_code 3 = .ok (.aload_n 1, 1) := by decide +kernel
theorem own_ct1_d4 : decode prog_1_method_1_code 4 = .ok (.arraylength, 1) := by decide +kernel
theorem own_ct1_d5 : decode prog_1_method_1_code 5 = .ok (.invokespecial 1, 3) := by decide +kernel
theorem own_ct1_d8 : decode prog_1_method_1_code 8 = .ok (.return_, 1) := by decide +kernel
theorem own_ct1_pn : plainName "com/example/honeybee/honeybee/device/DerReader" = true := by first | (simp [plainName, overriddenIn]; done) | decide +kernel
theorem own_ct1_ef (m : MethodId) (th : Addr) (pb : Addr) : entryFrame m #[(.ref th), (.ref pb)] 2 = mkF m 0 #[rv th, rv pb] [] := by first | (simp [entryFrame, mkF, argsToLocals, Value.category]; done) | rfl
def own_ct1_Q (Z : State) (th : Addr) (pb : Addr) (ln : Int32) (Lb : List Value) (h0 : Heap) (n0 : Nat) (v : Option Value) (h : Heap) (L : List Loc) : Prop := v = none ∧ Fr n0 L ∧ Keep h0 h [th] ∧ Exa Z h th "com/example/honeybee/honeybee/device/DerReader" ∧ Fld Z h th "com/example/honeybee/honeybee/device/DerReader" "bytes" "[B" (.ref pb) ∧ Fld Z h th "com/example/honeybee/honeybee/device/DerReader" "position" "I" (.int (0 : Int32)) ∧ Fld Z h th "com/example/honeybee/honeybee/device/DerReader" "end" "I" (.int ln)
set_option maxRecDepth 65536 in
set_option maxHeartbeats 40000000 in
theorem own_ct1 (l : Launch) (Z : State) (a0 : Array Value) (hw : ∀ d ∈ tables_1, d.before a0 Z = true) (ws : List Jvm.Cond) (th : Addr) (pb : Addr) (ln : Int32) (Lb : List Value) (h0 : Heap) (n0 : Nat) (Z0 : n0 ≤ h0.size) (E0 : Exa Z h0 th "com/example/honeybee/honeybee/device/DerReader") (g0 : n0 ≤ th) (F9000 : Fld Z h0 th "com/example/honeybee/honeybee/device/DerReader" "bytes" "[B" .null) (F9001 : Fld Z h0 th "com/example/honeybee/honeybee/device/DerReader" "position" "I" (.int (0 : Int32))) (F9002 : Fld Z h0 th "com/example/honeybee/honeybee/device/DerReader" "end" "I" (.int (0 : Int32))) (V0 : own_Ar Z h0 pb .byte Lb) (hln : Lb.length.toInt32 = ln) :
    MetFree l own_y7 (head1 (Jvm.Cond.code own_y7 prog_1_method_1_code 2 none :: ws) ({ frames := 2, cells := 0, slots := 0, locals := 27 } : Room)) (fun a U => a = #[(.ref th), (.ref pb)] ∧ Z.Warmed39 U.vm ∧ U.heap = h0) (fun _ _ _ _ _ => True) (fun _ U o U' => ∃ v L, o = .returned v ∧ (own_ct1_Q Z th pb ln Lb h0 n0) v U'.heap L ∧ FrameEnd U o U' L ({ frames := 2, cells := 0, slots := 0, locals := 27 } : Room).cells ({ frames := 2, cells := 0, slots := 0, locals := 27 } : Room).slots) := by
  refine MetFree.of_bodySF (plainFor_of_name own_ct1_pn) hisR ?_
  intro p e s m args below meth c s₁ Bd hml0 hP hK
  obtain ⟨rfl, hZ, hh⟩ := hP
  have hx := Bd.exec
  have hby := Bd.bytes
  have hml : c.maxLocals = 2 := hml0
  have hown : s.vm.findClass "com/example/honeybee/honeybee/device/DerReader" = some m.cls := findClass_of_methodNamed Bd.named
  have hnm := (name_of_methodNamed Bd.named Bd.method).1
  have hlk : meth.locks = false := Bd.notSynchronized
  have X0 : Stand p l e ({ frames := 2, cells := 0, slots := 0, locals := 27 } : Room) s m #[(.ref th), (.ref pb)] below meth c s₁ [] 0 0 := Stand.of_body Bd
  have e0 : s₁.heap = h0 := by rw [← hh, Bd.state]; rfl
  have N0 := Fr.nil n0
  have w_3 := hw _ (List.mem_of_getElem? (l := tables_1) (i := 3) rfl)
  have w_7 := hw _ (List.mem_of_getElem? (l := tables_1) (i := 7) rfl)
  have w_8 := hw _ (List.mem_of_getElem? (l := tables_1) (i := 8) rfl)
  have w_9 := hw _ (List.mem_of_getElem? (l := tables_1) (i := 9) rfl)
  show own_G p.tables e below (fun o U' => ∃ v L, o = .returned v ∧ (own_ct1_Q Z th pb ln Lb h0 n0) v U'.heap L ∧ FrameEnd s o U' L ({ frames := 2, cells := 0, slots := 0, locals := 27 } : Room).cells ({ frames := 2, cells := 0, slots := 0, locals := 27 } : Room).slots) (s₁.setTop (entryFrame m #[(.ref th), (.ref pb)] 2))
  refine own_go (B := s₁.setTop (mkF m 0 #[rv th, rv pb] [])) (fun t k => castTop (own_ct1_ef m th pb) k) ?_
  have K0 := Keep.refl h0 [th]
  refine own_go (B := (s₁.setTop (mkF m 1 #[rv th, rv pb] [(.ref th)]))) (fun t k => XS.aloadN X0.here hx rfl (hb hby own_ct1_d0) rfl rfl k) ?_
  refine own_go (B := (s₁.setTop (mkF m 2 #[rv th, rv pb] [(.ref pb), (.ref th)]))) (fun t k => XS.aloadN X0.here hx rfl (hb hby own_ct1_d1) rfl rfl k) ?_
  refine own_go (B := (s₁.setTop (mkF m 3 #[rv th, rv pb] [(.int (0 : Int32)), (.ref pb), (.ref th)]))) (fun t k => own_iconst (v := (0 : Int32)) X0.here hx rfl (hb hby own_ct1_d2) (by decide) k) ?_
  refine own_go (B := (s₁.setTop (mkF m 4 #[rv th, rv pb] [(.ref pb), (.int (0 : Int32)), (.ref pb), (.ref th)]))) (fun t k => XS.aloadN X0.here hx rfl (hb hby own_ct1_d3) rfl rfl k) ?_
  refine own_go (B := (s₁.setTop (mkF m 5 #[rv th, rv pb] [(.int ln), (.int (0 : Int32)), (.ref pb), (.ref th)]))) (own_alen X0 hx hZ e0 V0 (n := ln) hln (g := (mkF m 4 #[rv th, rv pb] [(.ref pb), (.int (0 : Int32)), (.ref pb), (.ref th)])) rfl rfl (hb hby own_ct1_d4)) ?_
  obtain ⟨_, _, ⟨T1, L1, k1, n1⟩, -, X1, ⟨Lc1, hQ1, l1, y1, z1⟩, st1⟩ := X0.specialBack hx (y := own_y1) rfl hown (mvT hZ w_7) (mvT hZ w_8) (mvT hZ w_9) (by decide) (backOf (W := 0) (own_ct3 l Z a0 hw [] th pb (0 : Int32) ln h0 n0 Z0 E0 g0 F9000 F9001 F9002) hZ w_9 w_3 (by decide) (by decide)) (g := (mkF m 5 #[rv th, rv pb] [(.int ln), (.int (0 : Int32)), (.ref pb), (.ref th)])) rfl (by rw [hml]; rfl) (Steps.refl _) (a := th) (argsL := [(.ref pb), (.int (0 : Int32)), (.int ln)]) (rest := []) (lenOf own_pd1 rfl) rfl (by show 2 * 0 + _ ≤ _; exact own_b rfl) (hb hby own_ct1_d5) (fun _ _ => ⟨rfl, e0, (own_b rfl : 0 + 0 ≤ _), (own_b rfl : 0 + 0 ≤ _)⟩)
  dsimp only [Pt.U, Pt.locs, Pt.cells, Pt.slots] at X1 l1 y1 z1 st1 hQ1
  obtain ⟨rfl, Nq1, K1, Ex1, g0_1, g1_1, g2_1⟩ := hQ1
  obtain ⟨L1, X1, N1⟩ := own_absC (K := 0) (K' := 0) X1 l1 y1 z1 N0 Nq1
  have F2 : n0 ≤ T1.heap.size := Nat.le_trans Z0 K1.1
  have F3 := Exa.keep E0 K1
  have F4 := Keep.trans K0 K1 (allS (Or.inl (List.mem_of_getElem? (i := 0) rfl)) all0)
  refine own_tr (B := (T1.setTop (mkF m 8 #[rv th, rv pb] []))) st1 ?_
  exact own_retV X1 hx hlk Bd.returns (hb hby own_ct1_d8) (own_b rfl) (own_b rfl) (Q := (own_ct1_Q Z th pb ln Lb h0 n0)) ⟨rfl, N1, F4, Ex1, g0_1, g1_1, g2_1⟩

theorem own_hd_d0 : decode prog_1_method_9_code 0 = .ok (.aload_n 0, 1) := by decide +kernel
theorem own_hd_d1 : decode prog_1_method_9_code 1 = .ok (.getfield 20, 3) := by decide +kernel
theorem own_hd_d4 : decode prog_1_method_9_code 4 = .ok (.aload_n 0, 1) := by decide +kernel
theorem own_hd_d5 : decode prog_1_method_9_code 5 = .ok (.getfield 16, 3) := by decide +kernel
theorem own_hd_d8 : decode prog_1_method_9_code 8 = .ok (.isub, 1) := by decide +kernel
theorem own_hd_d9 : decode prog_1_method_9_code 9 = .ok (.iconst 2, 1) := by decide +kernel
theorem own_hd_d10 : decode prog_1_method_9_code 10 = .ok (.if_icmp .lt 20, 3) := by decide +kernel
theorem own_hd_d13 : decode prog_1_method_9_code 13 = .ok (.aload_n 0, 1) := by decide +kernel
theorem own_hd_d14 : decode prog_1_method_9_code 14 = .ok (.getfield 12, 3) := by decide +kernel
theorem own_hd_d17 : decode prog_1_method_9_code 17 = .ok (.aload_n 0, 1) := by decide +kernel
theorem own_hd_d18 : decode prog_1_method_9_code 18 = .ok (.getfield 16, 3) := by decide +kernel
theorem own_hd_d21 : decode prog_1_method_9_code 21 = .ok (.baload, 1) := by decide +kernel
theorem own_hd_d22 : decode prog_1_method_9_code 22 = .ok (.sipush 255, 3) := by decide +kernel
theorem own_hd_d25 : decode prog_1_method_9_code 25 = .ok (.iand, 1) := by decide +kernel
theorem own_hd_d26 : decode prog_1_method_9_code 26 = .ok (.iload_n 1, 1) := by decide +kernel
theorem own_hd_d27 : decode prog_1_method_9_code 27 = .ok (.if_icmp .eq 17, 3) := by decide +kernel
theorem own_hd_d44 : decode prog_1_method_9_code 44 = .ok (.aload_n 0, 1) := by decide +kernel
theorem own_hd_d45 : decode prog_1_method_9_code 45 = .ok (.getfield 12, 3) := by decide +kernel
theorem own_hd_d48 : decode prog_1_method_9_code 48 = .ok (.aload_n 0, 1) := by decide +kernel
theorem own_hd_d49 : decode prog_1_method_9_code 49 = .ok (.getfield 16, 3) := by decide +kernel
theorem own_hd_d52 : decode prog_1_method_9_code 52 = .ok (.iconst 1, 1) := by decide +kernel
theorem own_hd_d53 : decode prog_1_method_9_code 53 = .ok (.iadd, 1) := by decide +kernel
theorem own_hd_d54 : decode prog_1_method_9_code 54 = .ok (.baload, 1) := by decide +kernel
theorem own_hd_d55 : decode prog_1_method_9_code 55 = .ok (.sipush 255, 3) := by decide +kernel
theorem own_hd_d58 : decode prog_1_method_9_code 58 = .ok (.iand, 1) := by decide +kernel
theorem own_hd_d59 : decode prog_1_method_9_code 59 = .ok (.istore_n 3, 1) := by decide +kernel
theorem own_hd_d60 : decode prog_1_method_9_code 60 = .ok (.aload_n 0, 1) := by decide +kernel
theorem own_hd_d61 : decode prog_1_method_9_code 61 = .ok (.dup, 1) := by decide +kernel
theorem own_hd_d62 : decode prog_1_method_9_code 62 = .ok (.getfield 16, 3) := by decide +kernel
theorem own_hd_d65 : decode prog_1_method_9_code 65 = .ok (.iconst 2, 1) := by decide +kernel
theorem own_hd_d66 : decode prog_1_method_9_code 66 = .ok (.iadd, 1) := by decide +kernel
theorem own_hd_d67 : decode prog_1_method_9_code 67 = .ok (.putfield 16, 3) := by decide +kernel
theorem own_hd_d70 : decode prog_1_method_9_code 70 = .ok (.iload_n 3, 1) := by decide +kernel
theorem own_hd_d71 : decode prog_1_method_9_code 71 = .ok (.sipush 128, 3) := by decide +kernel
theorem own_hd_d74 : decode prog_1_method_9_code 74 = .ok (.if_icmp .ge 9, 3) := by decide +kernel
theorem own_hd_d77 : decode prog_1_method_9_code 77 = .ok (.iload_n 3, 1) := by decide +kernel
theorem own_hd_d78 : decode prog_1_method_9_code 78 = .ok (.istore 4, 2) := by decide +kernel
theorem own_hd_d80 : decode prog_1_method_9_code 80 = .ok (.goto 149, 3) := by decide +kernel
theorem own_hd_d229 : decode prog_1_method_9_code 229 = .ok (.iload 4, 2) := by decide +kernel
theorem own_hd_d231 : decode prog_1_method_9_code 231 = .ok (.aload_n 0, 1) := by decide +kernel
theorem own_hd_d232 : decode prog_1_method_9_code 232 = .ok (.getfield 20, 3) := by decide +kernel
theorem own_hd_d235 : decode prog_1_method_9_code 235 = .ok (.aload_n 0, 1) := by decide +kernel
theorem own_hd_d236 : decode prog_1_method_9_code 236 = .ok (.getfield 16, 3) := by decide +kernel
theorem own_hd_d239 : decode prog_1_method_9_code 239 = .ok (.isub, 1) := by decide +kernel
theorem own_hd_d240 : decode prog_1_method_9_code 240 = .ok (.if_icmp .le 17, 3) := by decide +kernel
theorem own_hd_d257 : decode prog_1_method_9_code 257 = .ok (.iload 4, 2) := by decide +kernel
theorem own_hd_d259 : decode prog_1_method_9_code 259 = .ok (.ireturn, 1) := by decide +kernel
theorem own_hd_pn : plainName "com/example/honeybee/honeybee/device/DerReader" = true := by first | (simp [plainName, overriddenIn]; done) | decide +kernel
theorem own_hd_ef (m : MethodId) (th : Addr) (tg : Int32) (nm : Addr) : entryFrame m #[(.ref th), (.int tg), (.ref nm)] 9 = mkF m 0 #[rv th, iv tg, rv nm, .unset, .unset, .unset, .unset, .unset, .unset] [] := by first | (simp [entryFrame, mkF, argsToLocals, Value.category]; done) | rfl
def own_hd_Q (Z : State) (th : Addr) (tg : Int32) (nm : Addr) (ba : Addr) (po en p2 b0 b1 ln : Int32) (Lb : List Value) (h0 : Heap) (n0 : Nat) (v : Option Value) (h : Heap) (L : List Loc) : Prop := v = some (.int ln) ∧ Fr n0 L ∧ Keep h0 h [th] ∧ Exa Z h th "com/example/honeybee/honeybee/device/DerReader" ∧ Fld Z h th "com/example/honeybee/honeybee/device/DerReader" "bytes" "[B" (.ref ba) ∧ Fld Z h th "com/example/honeybee/honeybee/device/DerReader" "position" "I" (.int p2) ∧ Fld Z h th "com/example/honeybee/honeybee/device/DerReader" "end" "I" (.int en)
set_option maxRecDepth 65536 in
set_option maxHeartbeats 40000000 in
theorem own_hd (l : Launch) (Z : State) (a0 : Array Value) (hw : ∀ d ∈ tables_1, d.before a0 Z = true) (ws : List Jvm.Cond) (th : Addr) (tg : Int32) (nm : Addr) (ba : Addr) (po en p2 b0 b1 ln : Int32) (Lb : List Value) (h0 : Heap) (n0 : Nat) (Z0 : n0 ≤ h0.size) (E0 : Exa Z h0 th "com/example/honeybee/honeybee/device/DerReader") (g0 : n0 ≤ th) (F9000 : Fld Z h0 th "com/example/honeybee/honeybee/device/DerReader" "bytes" "[B" (.ref ba)) (F9001 : Fld Z h0 th "com/example/honeybee/honeybee/device/DerReader" "position" "I" (.int po)) (F9002 : Fld Z h0 th "com/example/honeybee/honeybee/device/DerReader" "end" "I" (.int en)) (V0 : own_Ar Z h0 ba .byte Lb) (q0 : ¬ po < 0) (q0b : ¬ (po + (1 : Int32)) < 0) (q1 : ¬ (en - po) < (2 : Int32)) (hv1 : Lb[po.toNatClampNeg]? = some (.int b0)) (q2 : (b0 &&& (255 : Int32)) = tg) (hv2 : Lb[(po + (1 : Int32)).toNatClampNeg]? = some (.int b1)) (q3 : (b1 &&& (255 : Int32)) = ln) (q4 : ln < (128 : Int32)) (hp2 : po + (2 : Int32) = p2) (q5 : ¬ (en - p2) < ln) :
    MetFree l own_y2 (head1 (Jvm.Cond.code own_y2 prog_1_method_9_code 9 (some .int) :: ws) ({ frames := 0, cells := 0, slots := 0, locals := 0 } : Room)) (fun a U => a = #[(.ref th), (.int tg), (.ref nm)] ∧ Z.Warmed39 U.vm ∧ U.heap = h0) (fun _ _ _ _ _ => True) (fun _ U o U' => ∃ v L, o = .returned v ∧ (own_hd_Q Z th tg nm ba po en p2 b0 b1 ln Lb h0 n0) v U'.heap L ∧ FrameEnd U o U' L ({ frames := 0, cells := 0, slots := 0, locals := 0 } : Room).cells ({ frames := 0, cells := 0, slots := 0, locals := 0 } : Room).slots) := by
  refine MetFree.of_bodySF (plainFor_of_name own_hd_pn) hisR ?_
  intro p e s m args below meth c s₁ Bd hml0 hP hK
  obtain ⟨rfl, hZ, hh⟩ := hP
  have hx := Bd.exec
  have hby := Bd.bytes
  have hml : c.maxLocals = 9 := hml0
  have hown : s.vm.findClass "com/example/honeybee/honeybee/device/DerReader" = some m.cls := findClass_of_methodNamed Bd.named
  have hnm := (name_of_methodNamed Bd.named Bd.method).1
  have hlk : meth.locks = false := Bd.notSynchronized
  have X0 : Stand p l e ({ frames := 0, cells := 0, slots := 0, locals := 0 } : Room) s m #[(.ref th), (.int tg), (.ref nm)] below meth c s₁ [] 0 0 := Stand.of_body Bd
  have e0 : s₁.heap = h0 := by rw [← hh, Bd.state]; rfl
  have N0 := Fr.nil n0
  have w_2 := hw _ (List.mem_of_getElem? (l := tables_1) (i := 2) rfl)
  have w_13 := hw _ (List.mem_of_getElem? (l := tables_1) (i := 13) rfl)
  have w_14 := hw _ (List.mem_of_getElem? (l := tables_1) (i := 14) rfl)
  have w_15 := hw _ (List.mem_of_getElem? (l := tables_1) (i := 15) rfl)
  have w_16 := hw _ (List.mem_of_getElem? (l := tables_1) (i := 16) rfl)
  have w_17 := hw _ (List.mem_of_getElem? (l := tables_1) (i := 17) rfl)
  have w_18 := hw _ (List.mem_of_getElem? (l := tables_1) (i := 18) rfl)
  show own_G p.tables e below (fun o U' => ∃ v L, o = .returned v ∧ (own_hd_Q Z th tg nm ba po en p2 b0 b1 ln Lb h0 n0) v U'.heap L ∧ FrameEnd s o U' L ({ frames := 0, cells := 0, slots := 0, locals := 0 } : Room).cells ({ frames := 0, cells := 0, slots := 0, locals := 0 } : Room).slots) (s₁.setTop (entryFrame m #[(.ref th), (.int tg), (.ref nm)] 9))
  refine own_go (B := s₁.setTop (mkF m 0 #[rv th, iv tg, rv nm, .unset, .unset, .unset, .unset, .unset, .unset] [])) (fun t k => castTop (own_hd_ef m th tg nm) k) ?_
  have K0 := Keep.refl h0 [th]
  have nba := own_Ar_ne E0 w_2 V0
  refine own_go (B := (s₁.setTop (mkF m 1 #[rv th, iv tg, rv nm, .unset, .unset, .unset, .unset, .unset, .unset] [(.ref th)]))) (fun t k => XS.aloadN X0.here hx rfl (hb hby own_hd_d0) rfl rfl k) ?_
  obtain ⟨T1, X1, e1, st1⟩ := getF X0 hx hZ hown (host := "") (Or.inl w_17) Via.refl e0 F9002 (g := (mkF m 1 #[rv th, iv tg, rv nm, .unset, .unset, .unset, .unset, .unset, .unset] [(.ref th)])) rfl rfl (hb hby own_hd_d1)
  refine own_go (B := (T1.setTop (mkF m 4 #[rv th, iv tg, rv nm, .unset, .unset, .unset, .unset, .unset, .unset] [(.int en)]))) st1 ?_
  refine own_go (B := (T1.setTop (mkF m 5 #[rv th, iv tg, rv nm, .unset, .unset, .unset, .unset, .unset, .unset] [(.ref th), (.int en)]))) (fun t k => XS.aloadN X1.here hx rfl (hb hby own_hd_d4) rfl rfl k) ?_
  obtain ⟨T2, X2, e2, st2⟩ := getF X1 hx hZ hown (host := "") (Or.inl w_15) Via.refl e1 F9001 (g := (mkF m 5 #[rv th, iv tg, rv nm, .unset, .unset, .unset, .unset, .unset, .unset] [(.ref th), (.int en)])) rfl rfl (hb hby own_hd_d5)
  refine own_go (B := (T2.setTop (mkF m 8 #[rv th, iv tg, rv nm, .unset, .unset, .unset, .unset, .unset, .unset] [(.int po), (.int en)]))) st2 ?_
  refine own_go (B := (T2.setTop (mkF m 9 #[rv th, iv tg, rv nm, .unset, .unset, .unset, .unset, .unset, .unset] [(.int (en - po))]))) (fun t k => XS.isub (x := en) (y := po) X2.here hx rfl (hb hby own_hd_d8) rfl k) ?_
  refine own_go (B := (T2.setTop (mkF m 10 #[rv th, iv tg, rv nm, .unset, .unset, .unset, .unset, .unset, .unset] [(.int (2 : Int32)), (.int (en - po))]))) (fun t k => own_iconst (v := (2 : Int32)) X2.here hx rfl (hb hby own_hd_d9) (by decide) k) ?_
  have hc10 : ¬ (en - po) < (2 : Int32) := q1
  refine own_icmpN X2 hx (hb hby own_hd_d10) (pn := 13) rfl hc10 ?_
  refine own_go (B := (T2.setTop (mkF m 14 #[rv th, iv tg, rv nm, .unset, .unset, .unset, .unset, .unset, .unset] [(.ref th)]))) (fun t k => XS.aloadN X2.here hx rfl (hb hby own_hd_d13) rfl rfl k) ?_
  obtain ⟨T3, X3, e3, st3⟩ := getF X2 hx hZ hown (host := "") (Or.inl w_13) Via.refl e2 F9000 (g := (mkF m 14 #[rv th, iv tg, rv nm, .unset, .unset, .unset, .unset, .unset, .unset] [(.ref th)])) rfl rfl (hb hby own_hd_d14)
  refine own_go (B := (T3.setTop (mkF m 17 #[rv th, iv tg, rv nm, .unset, .unset, .unset, .unset, .unset, .unset] [(.ref ba)]))) st3 ?_
  refine own_go (B := (T3.setTop (mkF m 18 #[rv th, iv tg, rv nm, .unset, .unset, .unset, .unset, .unset, .unset] [(.ref th), (.ref ba)]))) (fun t k => XS.aloadN X3.here hx rfl (hb hby own_hd_d17) rfl rfl k) ?_
  obtain ⟨T4, X4, e4, st4⟩ := getF X3 hx hZ hown (host := "") (Or.inl w_15) Via.refl e3 F9001 (g := (mkF m 18 #[rv th, iv tg, rv nm, .unset, .unset, .unset, .unset, .unset, .unset] [(.ref th), (.ref ba)])) rfl rfl (hb hby own_hd_d18)
  refine own_go (B := (T4.setTop (mkF m 21 #[rv th, iv tg, rv nm, .unset, .unset, .unset, .unset, .unset, .unset] [(.int po), (.ref ba)]))) st4 ?_
  refine own_go (B := (T4.setTop (mkF m 22 #[rv th, iv tg, rv nm, .unset, .unset, .unset, .unset, .unset, .unset] [(.int b0)]))) (own_ldB X4 hx hZ e4 V0 (v := (.int b0)) q0 hv1 (g := (mkF m 21 #[rv th, iv tg, rv nm, .unset, .unset, .unset, .unset, .unset, .unset] [(.int po), (.ref ba)])) rfl rfl (hb hby own_hd_d21)) ?_
  refine own_go (B := (T4.setTop (mkF m 25 #[rv th, iv tg, rv nm, .unset, .unset, .unset, .unset, .unset, .unset] [(.int (255 : Int32)), (.int b0)]))) (fun t k => own_sipush (v := (255 : Int32)) X4.here hx rfl (hb hby own_hd_d22) (by decide) k) ?_
  refine own_go (B := (T4.setTop (mkF m 26 #[rv th, iv tg, rv nm, .unset, .unset, .unset, .unset, .unset, .unset] [(.int (b0 &&& (255 : Int32)))]))) (fun t k => XS.iand (x := b0) (y := (255 : Int32)) X4.here hx rfl (hb hby own_hd_d25) rfl k) ?_
  refine own_go (B := (T4.setTop (mkF m 27 #[rv th, iv tg, rv nm, .unset, .unset, .unset, .unset, .unset, .unset] [(.int tg), (.int (b0 &&& (255 : Int32)))]))) (fun t k => XS.iloadN X4.here hx rfl (hb hby own_hd_d26) rfl k) ?_
  have hc27 : (b0 &&& (255 : Int32)) = tg := q2
  refine own_icmpY X4 hx (hb hby own_hd_d27) (pc' := 44) (by decide) (by decide) hc27 ?_
  refine own_go (B := (T4.setTop (mkF m 45 #[rv th, iv tg, rv nm, .unset, .unset, .unset, .unset, .unset, .unset] [(.ref th)]))) (fun t k => XS.aloadN X4.here hx rfl (hb hby own_hd_d44) rfl rfl k) ?_
  obtain ⟨T5, X5, e5, st5⟩ := getF X4 hx hZ hown (host := "") (Or.inl w_13) Via.refl e4 F9000 (g := (mkF m 45 #[rv th, iv tg, rv nm, .unset, .unset, .unset, .unset, .unset, .unset] [(.ref th)])) rfl rfl (hb hby own_hd_d45)
  refine own_go (B := (T5.setTop (mkF m 48 #[rv th, iv tg, rv nm, .unset, .unset, .unset, .unset, .unset, .unset] [(.ref ba)]))) st5 ?_
  refine own_go (B := (T5.setTop (mkF m 49 #[rv th, iv tg, rv nm, .unset, .unset, .unset, .unset, .unset, .unset] [(.ref th), (.ref ba)]))) (fun t k => XS.aloadN X5.here hx rfl (hb hby own_hd_d48) rfl rfl k) ?_
  obtain ⟨T6, X6, e6, st6⟩ := getF X5 hx hZ hown (host := "") (Or.inl w_15) Via.refl e5 F9001 (g := (mkF m 49 #[rv th, iv tg, rv nm, .unset, .unset, .unset, .unset, .unset, .unset] [(.ref th), (.ref ba)])) rfl rfl (hb hby own_hd_d49)
  refine own_go (B := (T6.setTop (mkF m 52 #[rv th, iv tg, rv nm, .unset, .unset, .unset, .unset, .unset, .unset] [(.int po), (.ref ba)]))) st6 ?_
  refine own_go (B := (T6.setTop (mkF m 53 #[rv th, iv tg, rv nm, .unset, .unset, .unset, .unset, .unset, .unset] [(.int (1 : Int32)), (.int po), (.ref ba)]))) (fun t k => own_iconst (v := (1 : Int32)) X6.here hx rfl (hb hby own_hd_d52) (by decide) k) ?_
  refine own_go (B := (T6.setTop (mkF m 54 #[rv th, iv tg, rv nm, .unset, .unset, .unset, .unset, .unset, .unset] [(.int (po + (1 : Int32))), (.ref ba)]))) (fun t k => XS.iadd (x := po) (y := (1 : Int32)) X6.here hx rfl (hb hby own_hd_d53) rfl k) ?_
  refine own_go (B := (T6.setTop (mkF m 55 #[rv th, iv tg, rv nm, .unset, .unset, .unset, .unset, .unset, .unset] [(.int b1)]))) (own_ldB X6 hx hZ e6 V0 (v := (.int b1)) q0b hv2 (g := (mkF m 54 #[rv th, iv tg, rv nm, .unset, .unset, .unset, .unset, .unset, .unset] [(.int (po + (1 : Int32))), (.ref ba)])) rfl rfl (hb hby own_hd_d54)) ?_
  refine own_go (B := (T6.setTop (mkF m 58 #[rv th, iv tg, rv nm, .unset, .unset, .unset, .unset, .unset, .unset] [(.int (255 : Int32)), (.int b1)]))) (fun t k => own_sipush (v := (255 : Int32)) X6.here hx rfl (hb hby own_hd_d55) (by decide) k) ?_
  refine own_go (B := (T6.setTop (mkF m 59 #[rv th, iv tg, rv nm, .unset, .unset, .unset, .unset, .unset, .unset] [(.int (b1 &&& (255 : Int32)))]))) (fun t k => XS.iand (x := b1) (y := (255 : Int32)) X6.here hx rfl (hb hby own_hd_d58) rfl k) ?_
  rw [q3]
  refine own_go (B := (T6.setTop (mkF m 60 #[rv th, iv tg, rv nm, iv ln, .unset, .unset, .unset, .unset, .unset] []))) (fun t k => XS.istoreN X6.here hx rfl (hb hby own_hd_d59) rfl (l' := #[rv th, iv tg, rv nm, iv ln, .unset, .unset, .unset, .unset, .unset]) rfl k) ?_
  refine own_go (B := (T6.setTop (mkF m 61 #[rv th, iv tg, rv nm, iv ln, .unset, .unset, .unset, .unset, .unset] [(.ref th)]))) (fun t k => XS.aloadN X6.here hx rfl (hb hby own_hd_d60) rfl rfl k) ?_
  refine own_go (B := (T6.setTop (mkF m 62 #[rv th, iv tg, rv nm, iv ln, .unset, .unset, .unset, .unset, .unset] [(.ref th), (.ref th)]))) (fun t k => XS.dup X6.here hx rfl (hb hby own_hd_d61) rfl rfl k) ?_
  obtain ⟨T7, X7, e7, st7⟩ := getF X6 hx hZ hown (host := "") (Or.inl w_15) Via.refl e6 F9001 (g := (mkF m 62 #[rv th, iv tg, rv nm, iv ln, .unset, .unset, .unset, .unset, .unset] [(.ref th), (.ref th)])) rfl rfl (hb hby own_hd_d62)
  refine own_go (B := (T7.setTop (mkF m 65 #[rv th, iv tg, rv nm, iv ln, .unset, .unset, .unset, .unset, .unset] [(.int po), (.ref th)]))) st7 ?_
  refine own_go (B := (T7.setTop (mkF m 66 #[rv th, iv tg, rv nm, iv ln, .unset, .unset, .unset, .unset, .unset] [(.int (2 : Int32)), (.int po), (.ref th)]))) (fun t k => own_iconst (v := (2 : Int32)) X7.here hx rfl (hb hby own_hd_d65) (by decide) k) ?_
  refine own_go (B := (T7.setTop (mkF m 67 #[rv th, iv tg, rv nm, iv ln, .unset, .unset, .unset, .unset, .unset] [(.int (po + (2 : Int32))), (.ref th)]))) (fun t k => XS.iadd (x := po) (y := (2 : Int32)) X7.here hx rfl (hb hby own_hd_d66) rfl k) ?_
  rw [hp2]
  obtain ⟨T8, h8, X8, e8, W8, st8⟩ := putF X7 hx hZ hown (host := "") (Or.inl w_15) Via.refl e7 F9001 E0 (Or.inl w_16) w_2 (ty := .int) (by decide) rfl rfl (g := (mkF m 67 #[rv th, iv tg, rv nm, iv ln, .unset, .unset, .unset, .unset, .unset] [(.int p2), (.ref th)])) rfl rfl (hb hby own_hd_d67)
  refine own_go (B := (T8.setTop (mkF m 70 #[rv th, iv tg, rv nm, iv ln, .unset, .unset, .unset, .unset, .unset] []))) st8 ?_
  obtain ⟨L8, X8, N8⟩ := own_abs X8 (Fr.snoc X8 N0 g0)
  have F9 : n0 ≤ h8.size := by rw [W8.size]; exact Z0
  have F10 := Exa.wr W8 E0
  have F11 := Keep.wr K0 W8 (Or.inl (List.mem_of_getElem? (i := 0) rfl))
  have F12 := Fld.other W8 F9000 (Or.inr (slot_ne (t := (.array .byte)) (t' := .int) (Or.inr w_14) (Or.inl w_16) (by decide) (by decide) (by decide)))
  have F13 := Fld.same W8 F9001
  have F14 := Fld.other W8 F9002 (Or.inr (slot_ne (t := .int) (t' := .int) (Or.inr w_18) (Or.inl w_16) (by decide) (by decide) (by decide)))
  have F15 := own_Ar_other V0 W8 (Ne.symm nba)
  refine own_go (B := (T8.setTop (mkF m 71 #[rv th, iv tg, rv nm, iv ln, .unset, .unset, .unset, .unset, .unset] [(.int ln)]))) (fun t k => XS.iloadN X8.here hx rfl (hb hby own_hd_d70) rfl k) ?_
  refine own_go (B := (T8.setTop (mkF m 74 #[rv th, iv tg, rv nm, iv ln, .unset, .unset, .unset, .unset, .unset] [(.int (128 : Int32)), (.int ln)]))) (fun t k => own_sipush (v := (128 : Int32)) X8.here hx rfl (hb hby own_hd_d71) (by decide) k) ?_
  have hc74 : ln < (128 : Int32) := q4
  refine own_icmpN X8 hx (hb hby own_hd_d74) (pn := 77) rfl hc74 ?_
  refine own_go (B := (T8.setTop (mkF m 78 #[rv th, iv tg, rv nm, iv ln, .unset, .unset, .unset, .unset, .unset] [(.int ln)]))) (fun t k => XS.iloadN X8.here hx rfl (hb hby own_hd_d77) rfl k) ?_
  refine own_go (B := (T8.setTop (mkF m 80 #[rv th, iv tg, rv nm, iv ln, iv ln, .unset, .unset, .unset, .unset] []))) (fun t k => XS.istore X8.here hx rfl (hb hby own_hd_d78) rfl (l' := #[rv th, iv tg, rv nm, iv ln, iv ln, .unset, .unset, .unset, .unset]) rfl k) ?_
  refine own_go (B := (T8.setTop (mkF m 229 #[rv th, iv tg, rv nm, iv ln, iv ln, .unset, .unset, .unset, .unset] []))) (fun t k => XS.goto X8.here hx rfl (pc0 := 80) (pc' := 229) rfl (hb hby own_hd_d80) (by decide) (by decide) k) ?_
  refine own_go (B := (T8.setTop (mkF m 231 #[rv th, iv tg, rv nm, iv ln, iv ln, .unset, .unset, .unset, .unset] [(.int ln)]))) (fun t k => XS.iload X8.here hx rfl (hb hby own_hd_d229) rfl k) ?_
  refine own_go (B := (T8.setTop (mkF m 232 #[rv th, iv tg, rv nm, iv ln, iv ln, .unset, .unset, .unset, .unset] [(.ref th), (.int ln)]))) (fun t k => XS.aloadN X8.here hx rfl (hb hby own_hd_d231) rfl rfl k) ?_
  obtain ⟨T16, X16, e16, st16⟩ := getF X8 hx hZ hown (host := "") (Or.inl w_17) Via.refl e8 F14 (g := (mkF m 232 #[rv th, iv tg, rv nm, iv ln, iv ln, .unset, .unset, .unset, .unset] [(.ref th), (.int ln)])) rfl rfl (hb hby own_hd_d232)
  refine own_go (B := (T16.setTop (mkF m 235 #[rv th, iv tg, rv nm, iv ln, iv ln, .unset, .unset, .unset, .unset] [(.int en), (.int ln)]))) st16 ?_
  refine own_go (B := (T16.setTop (mkF m 236 #[rv th, iv tg, rv nm, iv ln, iv ln, .unset, .unset, .unset, .unset] [(.ref th), (.int en), (.int ln)]))) (fun t k => XS.aloadN X16.here hx rfl (hb hby own_hd_d235) rfl rfl k) ?_
  obtain ⟨T17, X17, e17, st17⟩ := getF X16 hx hZ hown (host := "") (Or.inl w_15) Via.refl e16 F13 (g := (mkF m 236 #[rv th, iv tg, rv nm, iv ln, iv ln, .unset, .unset, .unset, .unset] [(.ref th), (.int en), (.int ln)])) rfl rfl (hb hby own_hd_d236)
  refine own_go (B := (T17.setTop (mkF m 239 #[rv th, iv tg, rv nm, iv ln, iv ln, .unset, .unset, .unset, .unset] [(.int p2), (.int en), (.int ln)]))) st17 ?_
  refine own_go (B := (T17.setTop (mkF m 240 #[rv th, iv tg, rv nm, iv ln, iv ln, .unset, .unset, .unset, .unset] [(.int (en - p2)), (.int ln)]))) (fun t k => XS.isub (x := en) (y := p2) X17.here hx rfl (hb hby own_hd_d239) rfl k) ?_
  have hc240 : ¬ (en - p2) < ln := q5
  refine own_icmpY X17 hx (hb hby own_hd_d240) (pc' := 257) (by decide) (by decide) hc240 ?_
  refine own_go (B := (T17.setTop (mkF m 259 #[rv th, iv tg, rv nm, iv ln, iv ln, .unset, .unset, .unset, .unset] [(.int ln)]))) (fun t k => XS.iload X17.here hx rfl (hb hby own_hd_d257) rfl k) ?_
  exact own_retI X17 hx hlk Bd.returns (hb hby own_hd_d259) (own_b rfl) (own_b rfl) (Q := (own_hd_Q Z th tg nm ba po en p2 b0 b1 ln Lb h0 n0)) (by rw [e17]; exact ⟨rfl, N8, F11, F10, F12, F13, F14⟩)

theorem own_nv_d0 : decode prog_1_method_7_code 0 = .ok (.aload_n 0, 1) := by decide +kernel
theorem own_nv_d1 : decode prog_1_method_7_code 1 = .ok (.iconst 5, 1) := by decide +kernel
theorem own_nv_d2 : decode prog_1_method_7_code 2 = .ok (.ldc 57, 2) := by decide +kernel
theorem own_nv_d4 : decode prog_1_method_7_code 4 = .ok (.invokevirtual 25, 3) := by decide +kernel
theorem own_nv_d7 : decode prog_1_method_7_code 7 = .ok (.ifCond .eq 13, 3) := by decide +kernel
theorem own_nv_d20 : decode prog_1_method_7_code 20 = .ok (.return_, 1) := by decide +kernel
theorem own_nv_pn : plainName "com/example/honeybee/honeybee/device/DerReader" = true := by first | (simp [plainName, overriddenIn]; done) | decide +kernel
theorem own_nv_ef (m : MethodId) (th : Addr) : entryFrame m #[(.ref th)] 1 = mkF m 0 #[rv th] [] := by first | (simp [entryFrame, mkF, argsToLocals, Value.category]; done) | rfl
def own_nv_Q (Z : State) (th : Addr) (ba : Addr) (po en p2 b0 b1 : Int32) (Lb : List Value) (h0 : Heap) (n0 : Nat) (v : Option Value) (h : Heap) (L : List Loc) : Prop := v = none ∧ Fr n0 L ∧ Keep h0 h [th] ∧ Exa Z h th "com/example/honeybee/honeybee/device/DerReader" ∧ Fld Z h th "com/example/honeybee/honeybee/device/DerReader" "bytes" "[B" (.ref ba) ∧ Fld Z h th "com/example/honeybee/honeybee/device/DerReader" "position" "I" (.int p2) ∧ Fld Z h th "com/example/honeybee/honeybee/device/DerReader" "end" "I" (.int en)
set_option maxRecDepth 65536 in
set_option maxHeartbeats 40000000 in
theorem own_nv (l : Launch) (Z : State) (a0 : Array Value) (hw : ∀ d ∈ tables_1, d.before a0 Z = true) (ws : List Jvm.Cond) (th : Addr) (ba : Addr) (po en p2 b0 b1 : Int32) (Lb : List Value) (h0 : Heap) (n0 : Nat) (Z0 : n0 ≤ h0.size) (E0 : Exa Z h0 th "com/example/honeybee/honeybee/device/DerReader") (g0 : n0 ≤ th) (F9000 : Fld Z h0 th "com/example/honeybee/honeybee/device/DerReader" "bytes" "[B" (.ref ba)) (F9001 : Fld Z h0 th "com/example/honeybee/honeybee/device/DerReader" "position" "I" (.int po)) (F9002 : Fld Z h0 th "com/example/honeybee/honeybee/device/DerReader" "end" "I" (.int en)) (V0 : own_Ar Z h0 ba .byte Lb) (q0 : ¬ po < 0) (q0b : ¬ (po + (1 : Int32)) < 0) (q1 : ¬ (en - po) < (2 : Int32)) (hv1 : Lb[po.toNatClampNeg]? = some (.int b0)) (q2 : (b0 &&& (255 : Int32)) = (5 : Int32)) (hv2 : Lb[(po + (1 : Int32)).toNatClampNeg]? = some (.int b1)) (q3 : (b1 &&& (255 : Int32)) = (0 : Int32)) (q4 : (0 : Int32) < (128 : Int32)) (hp2 : po + (2 : Int32) = p2) (q5 : ¬ (en - p2) < (0 : Int32)) :
    MetFree l own_y8 (head1 (Jvm.Cond.code own_y8 prog_1_method_7_code 1 none :: ws) ({ frames := 1, cells := 2, slots := 20, locals := 20 } : Room)) (fun a U => a = #[(.ref th)] ∧ Z.Warmed39 U.vm ∧ U.heap = h0) (fun _ _ _ _ _ => True) (fun _ U o U' => ∃ v L, o = .returned v ∧ (own_nv_Q Z th ba po en p2 b0 b1 Lb h0 n0) v U'.heap L ∧ ReturnedEndW U o U' L ({ frames := 1, cells := 2, slots := 20, locals := 20 } : Room).cells ({ frames := 1, cells := 2, slots := 20, locals := 20 } : Room).slots) := by
  refine MetFree.of_bodySF (plainFor_of_name own_nv_pn) hisR ?_
  intro p e s m args below meth c s₁ Bd hml0 hP hK
  obtain ⟨rfl, hZ, hh⟩ := hP
  have hx := Bd.exec
  have hby := Bd.bytes
  have hml : c.maxLocals = 1 := hml0
  have hown : s.vm.findClass "com/example/honeybee/honeybee/device/DerReader" = some m.cls := findClass_of_methodNamed Bd.named
  have hnm := (name_of_methodNamed Bd.named Bd.method).1
  have hlk : meth.locks = false := Bd.notSynchronized
  have X0 : Stand p l e ({ frames := 1, cells := 2, slots := 20, locals := 20 } : Room) (s.setVm s.vm) m #[(.ref th)] below meth c s₁ [] 0 0 := Stand.of_body Bd
  have hS0 : s.Since s.vm 0 := own_since0 s 0
  have hk0 : 0 ≤ h0.size := Nat.zero_le _
  have hws := own_hws hw
  have e0 : s₁.heap = h0 := by rw [← hh, Bd.state]; rfl
  have N0 := Fr.nil n0
  have w_2 := hw _ (List.mem_of_getElem? (l := tables_1) (i := 2) rfl)
  have w_3 := hw _ (List.mem_of_getElem? (l := tables_1) (i := 3) rfl)
  have w_24 := hw _ (List.mem_of_getElem? (l := tables_1) (i := 24) rfl)
  have w_31 := hw _ (List.mem_of_getElem? (l := tables_1) (i := 31) rfl)
  have w_32 := hw _ (List.mem_of_getElem? (l := tables_1) (i := 32) rfl)
  have w_33 := hw _ (List.mem_of_getElem? (l := tables_1) (i := 33) rfl)
  have w_34 := hw _ (List.mem_of_getElem? (l := tables_1) (i := 34) rfl)
  show own_G p.tables e below (fun o U' => ∃ v L, o = .returned v ∧ (own_nv_Q Z th ba po en p2 b0 b1 Lb h0 n0) v U'.heap L ∧ ReturnedEndW s o U' L ({ frames := 1, cells := 2, slots := 20, locals := 20 } : Room).cells ({ frames := 1, cells := 2, slots := 20, locals := 20 } : Room).slots) (s₁.setTop (entryFrame m #[(.ref th)] 1))
  refine own_go (B := s₁.setTop (mkF m 0 #[rv th] [])) (fun t k => castTop (own_nv_ef m th) k) ?_
  have K0 := Keep.refl h0 [th]
  have nba := own_Ar_ne E0 w_2 V0
  refine own_go (B := (s₁.setTop (mkF m 1 #[rv th] [(.ref th)]))) (fun t k => XS.aloadN X0.here hx rfl (hb hby own_nv_d0) rfl rfl k) ?_
  refine own_go (B := (s₁.setTop (mkF m 2 #[rv th] [(.int (5 : Int32)), (.ref th)]))) (fun t k => own_iconst (v := (5 : Int32)) X0.here hx rfl (hb hby own_nv_d1) (by decide) k) ?_
  obtain ⟨a1, T1, h1, k1, X1, e1, E1, hS1, hk1, hZ1, ho1, st1⟩ := ldcS (s := s) (vm0 := s.vm) X0 hx hZ hown w_24 hws e0 hS0 hk0 (g := (mkF m 2 #[rv th] [(.int (5 : Int32)), (.ref th)])) rfl (hb hby own_nv_d2) (n := 16) (by decide) (by decide) (own_b rfl) (own_b rfl)
  refine own_go (B := (T1.setTop (mkF m 4 #[rv th] [(.ref a1), (.int (5 : Int32)), (.ref th)]))) st1 ?_
  have Z2 : n0 ≤ h1.size := Nat.le_trans Z0 E1.1
  have F3 := Exa.ext E1 E0
  have K4 := Keep.ext K0 E1
  have F5 := Fld.ext E1 F9000
  have F6 := Fld.ext E1 F9001
  have F7 := Fld.ext E1 F9002
  have V8 := own_Ar_ext V0 E1
  obtain ⟨pc9, pq9, pr9⟩ := Exa.cell F3
  obtain ⟨_, _, ⟨T9, L9, k9, n9⟩, -, X9, ⟨Lc9, hQ9, l9, y9, z9⟩, st9⟩ := X1.privateBack hx (y := own_y2) ho1 (mvT hZ1 w_31) (mvT hZ1 w_32) (own_selp hZ1 w_2 w_33 w_32 (by decide)) (Cond.privateMethod_at (mvP hZ1 w_33 (args := #[]))) (mvT hZ1 w_34) (by decide) (backOf (W := 0) (own_hd l Z a0 hw [] th (5 : Int32) a1 ba po en p2 b0 b1 (0 : Int32) Lb h1 n0 Z2 F3 g0 F5 F6 F7 V8 q0 q0b q1 hv1 q2 hv2 q3 q4 hp2 q5) hZ1 w_34 w_3 (by decide) (by decide)) (g := (mkF m 4 #[rv th] [(.ref a1), (.int (5 : Int32)), (.ref th)])) rfl (by rw [hml]; rfl) (Steps.refl _) (a := th) (by rw [e1]; exact pq9) pr9 (argsL := [(.int (5 : Int32)), (.ref a1)]) (rest := []) (lenOf own_pd2 rfl) rfl (by show 2 * 0 + _ ≤ _; exact own_b rfl) (hb hby own_nv_d4) (fun _ _ => ⟨rfl, e1, (own_b rfl : 2 + 0 ≤ _), (own_b rfl : 20 + 0 ≤ _)⟩)
  dsimp only [Pt.U, Pt.locs, Pt.cells, Pt.slots] at X9 l9 y9 z9 st9 hQ9
  obtain ⟨rfl, Nq9, K9, Ex9, gb9, gp9, ge9⟩ := hQ9
  obtain ⟨L9, X9, N9⟩ := own_absC (K := 2) (K' := 20) X9 l9 y9 z9 N0 Nq9
  have F10 : n0 ≤ T9.heap.size := Nat.le_trans Z2 K9.1
  have F11 := Exa.keep F3 K9
  have F12 := Keep.trans K4 K9 (allS (Or.inl (List.mem_of_getElem? (i := 0) rfl)) all0)
  have F16 := own_Ar_keep V8 K9 (ninS (Ne.symm nba) nin0)
  have F17 : k1 ≤ T9.heap.size := Nat.le_trans hk1 K9.1
  refine own_tr (B := (T9.setTop (mkF m 7 #[rv th] [(.int (0 : Int32))]))) st9 ?_
  have hc7 : (0 : Int32) = (0 : Int32) := (by decide)
  refine own_ifY X9 hx (hb hby own_nv_d7) (pc' := 20) (by decide) (by decide) hc7 ?_
  exact own_retWV X9 hx hlk hS1 F17 Bd.returns (hb hby own_nv_d20) (own_b rfl) (own_b rfl) (Q := (own_nv_Q Z th ba po en p2 b0 b1 Lb h0 n0)) ⟨rfl, N9, F12, Ex9, gb9, gp9, ge9⟩

theorem own_ae_d0 : decode prog_1_method_8_code 0 = .ok (.aload_n 0, 1) := by decide +kernel
theorem own_ae_d1 : decode prog_1_method_8_code 1 = .ok (.getfield 16, 3) := by decide +kernel
theorem own_ae_d4 : decode prog_1_method_8_code 4 = .ok (.aload_n 0, 1) := by decide +kernel
theorem own_ae_d5 : decode prog_1_method_8_code 5 = .ok (.getfield 20, 3) := by decide +kernel
theorem own_ae_d8 : decode prog_1_method_8_code 8 = .ok (.if_icmp .ne 7, 3) := by decide +kernel
theorem own_ae_d11 : decode prog_1_method_8_code 11 = .ok (.iconst 1, 1) := by decide +kernel
theorem own_ae_d12 : decode prog_1_method_8_code 12 = .ok (.goto 4, 3) := by decide +kernel
theorem own_ae_d15 : decode prog_1_method_8_code 15 = .ok (.iconst 0, 1) := by decide +kernel
theorem own_ae_d16 : decode prog_1_method_8_code 16 = .ok (.ireturn, 1) := by decide +kernel
theorem own_ae_pn : plainName "com/example/honeybee/honeybee/device/DerReader" = true := by first | (simp [plainName, overriddenIn]; done) | decide +kernel
theorem own_ae_ef (m : MethodId) (th : Addr) : entryFrame m #[(.ref th)] 1 = mkF m 0 #[rv th] [] := by first | (simp [entryFrame, mkF, argsToLocals, Value.category]; done) | rfl
def own_ae_Q (Z : State) (th : Addr) (po en : Int32) (h0 : Heap) (n0 : Nat) (v : Option Value) (h : Heap) (L : List Loc) : Prop := v = some (.int (own_eqr po en)) ∧ Fr n0 L ∧ h = h0
set_option maxRecDepth 65536 in
set_option maxHeartbeats 40000000 in
theorem own_ae (l : Launch) (Z : State) (a0 : Array Value) (hw : ∀ d ∈ tables_1, d.before a0 Z = true) (ws : List Jvm.Cond) (th : Addr) (po en : Int32) (h0 : Heap) (n0 : Nat) (F1 : Fld Z h0 th "com/example/honeybee/honeybee/device/DerReader" "position" "I" (.int po)) (F2 : Fld Z h0 th "com/example/honeybee/honeybee/device/DerReader" "end" "I" (.int en)) :
    MetFree l own_y10 (head1 (Jvm.Cond.code own_y10 prog_1_method_8_code 1 (some .boolean) :: ws) ({ frames := 0, cells := 0, slots := 0, locals := 0 } : Room)) (fun a U => a = #[(.ref th)] ∧ Z.Warmed39 U.vm ∧ U.heap = h0) (fun _ _ _ _ _ => True) (fun _ U o U' => ∃ v L, o = .returned v ∧ (own_ae_Q Z th po en h0 n0) v U'.heap L ∧ FrameEnd U o U' L ({ frames := 0, cells := 0, slots := 0, locals := 0 } : Room).cells ({ frames := 0, cells := 0, slots := 0, locals := 0 } : Room).slots) := by
  refine MetFree.of_bodySF (plainFor_of_name own_ae_pn) hisR ?_
  intro p e s m args below meth c s₁ Bd hml0 hP hK
  obtain ⟨rfl, hZ, hh⟩ := hP
  have hx := Bd.exec
  have hby := Bd.bytes
  have hml : c.maxLocals = 1 := hml0
  have hown : s.vm.findClass "com/example/honeybee/honeybee/device/DerReader" = some m.cls := findClass_of_methodNamed Bd.named
  have hnm := (name_of_methodNamed Bd.named Bd.method).1
  have hlk : meth.locks = false := Bd.notSynchronized
  have X0 : Stand p l e ({ frames := 0, cells := 0, slots := 0, locals := 0 } : Room) s m #[(.ref th)] below meth c s₁ [] 0 0 := Stand.of_body Bd
  have e0 : s₁.heap = h0 := by rw [← hh, Bd.state]; rfl
  have N0 := Fr.nil n0
  have w_15 := hw _ (List.mem_of_getElem? (l := tables_1) (i := 15) rfl)
  have w_17 := hw _ (List.mem_of_getElem? (l := tables_1) (i := 17) rfl)
  show own_G p.tables e below (fun o U' => ∃ v L, o = .returned v ∧ (own_ae_Q Z th po en h0 n0) v U'.heap L ∧ FrameEnd s o U' L ({ frames := 0, cells := 0, slots := 0, locals := 0 } : Room).cells ({ frames := 0, cells := 0, slots := 0, locals := 0 } : Room).slots) (s₁.setTop (entryFrame m #[(.ref th)] 1))
  refine own_go (B := s₁.setTop (mkF m 0 #[rv th] [])) (fun t k => castTop (own_ae_ef m th) k) ?_
  refine own_go (B := (s₁.setTop (mkF m 1 #[rv th] [(.ref th)]))) (fun t k => XS.aloadN X0.here hx rfl (hb hby own_ae_d0) rfl rfl k) ?_
  obtain ⟨T6, X6, e6, st6⟩ := getF X0 hx hZ hown (host := "") (Or.inl w_15) Via.refl e0 F1 (g := (mkF m 1 #[rv th] [(.ref th)])) rfl rfl (hb hby own_ae_d1)
  refine own_go (B := (T6.setTop (mkF m 4 #[rv th] [(.int po)]))) st6 ?_
  refine own_go (B := (T6.setTop (mkF m 5 #[rv th] [(.ref th), (.int po)]))) (fun t k => XS.aloadN X6.here hx rfl (hb hby own_ae_d4) rfl rfl k) ?_
  obtain ⟨T7, X7, e7, st7⟩ := getF X6 hx hZ hown (host := "") (Or.inl w_17) Via.refl e6 F2 (g := (mkF m 5 #[rv th] [(.ref th), (.int po)])) rfl rfl (hb hby own_ae_d5)
  refine own_go (B := (T7.setTop (mkF m 8 #[rv th] [(.int en), (.int po)]))) st7 ?_
  refine own_icmp X7 hx (hb hby own_ae_d8) (pc' := 15) (pn := 11) (by decide) (by decide) rfl (fun (hc8 : ¬ po = en) => ?_) (fun (hc8 : po = en) => ?_)
  · refine own_go (B := (T7.setTop (mkF m 16 #[rv th] [(.int (0 : Int32))]))) (fun t k => own_iconst (v := (0 : Int32)) X7.here hx rfl (hb hby own_ae_d15) (by decide) k) ?_
    exact own_retZ X7 hx hlk Bd.returns (hb hby own_ae_d16) (by decide) (own_b rfl) (own_b rfl) (Q := (own_ae_Q Z th po en h0 n0)) ⟨by rw [own_eqr, if_neg hc8], N0, e7⟩
  · refine own_go (B := (T7.setTop (mkF m 12 #[rv th] [(.int (1 : Int32))]))) (fun t k => own_iconst (v := (1 : Int32)) X7.here hx rfl (hb hby own_ae_d11) (by decide) k) ?_
    refine own_go (B := (T7.setTop (mkF m 16 #[rv th] [(.int (1 : Int32))]))) (fun t k => XS.goto X7.here hx rfl (pc0 := 12) (pc' := 16) rfl (hb hby own_ae_d12) (by decide) (by decide) k) ?_
    exact own_retZ X7 hx hlk Bd.returns (hb hby own_ae_d16) (by decide) (own_b rfl) (own_b rfl) (Q := (own_ae_Q Z th po en h0 n0)) ⟨by rw [own_eqr, if_pos hc8], N0, e7⟩

theorem own_ck_d0 : decode jdk_65_method_131_code 0 = .ok (.iload_n 1, 1) := by decide +kernel
theorem own_ck_d1 : decode jdk_65_method_131_code 1 = .ok (.iload_n 0, 1) := by decide +kernel
theorem own_ck_d2 : decode jdk_65_method_131_code 2 = .ok (.if_icmp .ge 35, 3) := by decide +kernel
theorem own_ck_d37 : decode jdk_65_method_131_code 37 = .ok (.return_, 1) := by decide +kernel
theorem own_ck_pn : plainName "java/util/Arrays" = true := by first | (simp [plainName, overriddenIn]; done) | decide +kernel
theorem own_ck_ef (m : MethodId) : entryFrame m #[(.int (4 : Int32)), (.int (5 : Int32))] 2 = mkF m 0 #[iv (4 : Int32), iv (5 : Int32)] [] := by first | (simp [entryFrame, mkF, argsToLocals, Value.category]; done) | rfl
def own_ck_Q (Z : State) (h0 : Heap) (n0 : Nat) (v : Option Value) (h : Heap) (L : List Loc) : Prop := v = none ∧ Fr n0 L ∧ h = h0
set_option maxRecDepth 65536 in
set_option maxHeartbeats 40000000 in
theorem own_ck (l : Launch) (Z : State) (a0 : Array Value) (hw : ∀ d ∈ tables_1, d.before a0 Z = true) (ws : List Jvm.Cond) (h0 : Heap) (n0 : Nat) :
    MetFree l own_y3 (head1 (Jvm.Cond.code own_y3 jdk_65_method_131_code 2 none :: ws) ({ frames := 0, cells := 0, slots := 0, locals := 0 } : Room)) (fun a U => a = #[(.int (4 : Int32)), (.int (5 : Int32))] ∧ Z.Warmed39 U.vm ∧ U.heap = h0) (fun _ _ _ _ _ => True) (fun _ U o U' => ∃ v L, o = .returned v ∧ (own_ck_Q Z h0 n0) v U'.heap L ∧ FrameEnd U o U' L ({ frames := 0, cells := 0, slots := 0, locals := 0 } : Room).cells ({ frames := 0, cells := 0, slots := 0, locals := 0 } : Room).slots) := by
  refine MetFree.of_bodySF (plainFor_of_name own_ck_pn) hisR ?_
  intro p e s m args below meth c s₁ Bd hml0 hP hK
  obtain ⟨rfl, hZ, hh⟩ := hP
  have hx := Bd.exec
  have hby := Bd.bytes
  have hml : c.maxLocals = 2 := hml0
  have hown : s.vm.findClass "java/util/Arrays" = some m.cls := findClass_of_methodNamed Bd.named
  have hnm := (name_of_methodNamed Bd.named Bd.method).1
  have hlk : meth.locks = false := Bd.notSynchronized
  have X0 : Stand p l e ({ frames := 0, cells := 0, slots := 0, locals := 0 } : Room) s m #[(.int (4 : Int32)), (.int (5 : Int32))] below meth c s₁ [] 0 0 := Stand.of_body Bd
  have e0 : s₁.heap = h0 := by rw [← hh, Bd.state]; rfl
  have N0 := Fr.nil n0
  show own_G p.tables e below (fun o U' => ∃ v L, o = .returned v ∧ (own_ck_Q Z h0 n0) v U'.heap L ∧ FrameEnd s o U' L ({ frames := 0, cells := 0, slots := 0, locals := 0 } : Room).cells ({ frames := 0, cells := 0, slots := 0, locals := 0 } : Room).slots) (s₁.setTop (entryFrame m #[(.int (4 : Int32)), (.int (5 : Int32))] 2))
  refine own_go (B := s₁.setTop (mkF m 0 #[iv (4 : Int32), iv (5 : Int32)] [])) (fun t k => castTop (own_ck_ef m) k) ?_
  refine own_go (B := (s₁.setTop (mkF m 1 #[iv (4 : Int32), iv (5 : Int32)] [(.int (5 : Int32))]))) (fun t k => XS.iloadN X0.here hx rfl (hb hby own_ck_d0) rfl k) ?_
  refine own_go (B := (s₁.setTop (mkF m 2 #[iv (4 : Int32), iv (5 : Int32)] [(.int (4 : Int32)), (.int (5 : Int32))]))) (fun t k => XS.iloadN X0.here hx rfl (hb hby own_ck_d1) rfl k) ?_
  have hc2 : ¬ (5 : Int32) < (4 : Int32) := (by decide)
  refine own_icmpY X0 hx (hb hby own_ck_d2) (pc' := 37) (by decide) (by decide) hc2 ?_
  exact own_retV X0 hx hlk Bd.returns (hb hby own_ck_d37) (own_b rfl) (own_b rfl) (Q := (own_ck_Q Z h0 n0)) ⟨rfl, N0, e0⟩

theorem own_cb_d0 : decode jdk_65_method_133_code 0 = .ok (.iload_n 1, 1) := by decide +kernel
theorem own_cb_d1 : decode jdk_65_method_133_code 1 = .ok (.iload_n 2, 1) := by decide +kernel
theorem own_cb_d2 : decode jdk_65_method_133_code 2 = .ok (.invokestatic 343, 3) := by decide +kernel
theorem own_cb_d5 : decode jdk_65_method_133_code 5 = .ok (.iload_n 2, 1) := by decide +kernel
theorem own_cb_d6 : decode jdk_65_method_133_code 6 = .ok (.iload_n 1, 1) := by decide +kernel
theorem own_cb_d7 : decode jdk_65_method_133_code 7 = .ok (.isub, 1) := by decide +kernel
theorem own_cb_d8 : decode jdk_65_method_133_code 8 = .ok (.istore_n 3, 1) := by decide +kernel
theorem own_cb_d9 : decode jdk_65_method_133_code 9 = .ok (.iload_n 3, 1) := by decide +kernel
theorem own_cb_d10 : decode jdk_65_method_133_code 10 = .ok (.newarray .byte, 2) := by decide +kernel
theorem own_cb_d12 : decode jdk_65_method_133_code 12 = .ok (.astore 4, 2) := by decide +kernel
theorem own_cb_d14 : decode jdk_65_method_133_code 14 = .ok (.aload_n 0, 1) := by decide +kernel
theorem own_cb_d15 : decode jdk_65_method_133_code 15 = .ok (.iload_n 1, 1) := by decide +kernel
theorem own_cb_d16 : decode jdk_65_method_133_code 16 = .ok (.aload 4, 2) := by decide +kernel
theorem own_cb_d18 : decode jdk_65_method_133_code 18 = .ok (.iconst 0, 1) := by decide +kernel
theorem own_cb_d19 : decode jdk_65_method_133_code 19 = .ok (.aload_n 0, 1) := by decide +kernel
theorem own_cb_d20 : decode jdk_65_method_133_code 20 = .ok (.arraylength, 1) := by decide +kernel
theorem own_cb_d21 : decode jdk_65_method_133_code 21 = .ok (.iload_n 1, 1) := by decide +kernel
theorem own_cb_d22 : decode jdk_65_method_133_code 22 = .ok (.isub, 1) := by decide +kernel
theorem own_cb_d23 : decode jdk_65_method_133_code 23 = .ok (.iload_n 3, 1) := by decide +kernel
theorem own_cb_d24 : decode jdk_65_method_133_code 24 = .ok (.invokestatic 304, 3) := by decide +kernel
theorem own_cb_d27 : decode jdk_65_method_133_code 27 = .ok (.invokestatic 150, 3) := by decide +kernel
theorem own_cb_d30 : decode jdk_65_method_133_code 30 = .ok (.aload 4, 2) := by decide +kernel
theorem own_cb_d32 : decode jdk_65_method_133_code 32 = .ok (.areturn, 1) := by decide +kernel
theorem own_cb_pn : plainName "java/util/Arrays" = true := by first | (simp [plainName, overriddenIn]; done) | decide +kernel
theorem own_cb_ef (m : MethodId) (pb : Addr) : entryFrame m #[(.ref pb), (.int (4 : Int32)), (.int (5 : Int32))] 5 = mkF m 0 #[rv pb, iv (4 : Int32), iv (5 : Int32), .unset, .unset] [] := by first | (simp [entryFrame, mkF, argsToLocals, Value.category]; done) | rfl
def own_cb_Q (Z : State) (pb : Addr) (xx : Int32) (h0 : Heap) (n0 : Nat) (v : Option Value) (h : Heap) (L : List Loc) : Prop := ∃ b, v = some (.ref b) ∧ Fr n0 L ∧ Keep h0 h [] ∧ h0.size ≤ b ∧ own_Ar Z h b .byte [(.int xx)]
set_option maxRecDepth 65536 in
set_option maxHeartbeats 40000000 in
theorem own_cb (l : Launch) (Z : State) (a0 : Array Value) (hw : ∀ d ∈ tables_1, d.before a0 Z = true) (ws : List Jvm.Cond) (pb : Addr) (xx : Int32) (h0 : Heap) (n0 : Nat) (Z0 : n0 ≤ h0.size) (V0 : own_Ar Z h0 pb .byte [(.int (5 : Int32)), (.int (0 : Int32)), (.int (6 : Int32)), (.int (1 : Int32)), (.int xx)]) (hfx : fits .byte (.int xx) = true) :
    MetFree l own_y5 (head1 (Jvm.Cond.code own_y5 jdk_65_method_133_code 5 (some (.array .byte)) :: ws) ({ frames := 1, cells := 1, slots := 1, locals := 40 } : Room)) (fun a U => a = #[(.ref pb), (.int (4 : Int32)), (.int (5 : Int32))] ∧ Z.Warmed39 U.vm ∧ U.heap = h0) (fun _ _ _ _ _ => True) (fun _ U o U' => ∃ v L, o = .returned v ∧ (own_cb_Q Z pb xx h0 n0) v U'.heap L ∧ FrameEnd U o U' L ({ frames := 1, cells := 1, slots := 1, locals := 40 } : Room).cells ({ frames := 1, cells := 1, slots := 1, locals := 40 } : Room).slots) := by
  refine MetFree.of_bodySF (plainFor_of_name own_cb_pn) hisR ?_
  intro p e s m args below meth c s₁ Bd hml0 hP hK
  obtain ⟨rfl, hZ, hh⟩ := hP
  have hx := Bd.exec
  have hby := Bd.bytes
  have hml : c.maxLocals = 5 := hml0
  have hown : s.vm.findClass "java/util/Arrays" = some m.cls := findClass_of_methodNamed Bd.named
  have hnm := (name_of_methodNamed Bd.named Bd.method).1
  have hlk : meth.locks = false := Bd.notSynchronized
  have X0 : Stand p l e ({ frames := 1, cells := 1, slots := 1, locals := 40 } : Room) s m #[(.ref pb), (.int (4 : Int32)), (.int (5 : Int32))] below meth c s₁ [] 0 0 := Stand.of_body Bd
  have e0 : s₁.heap = h0 := by rw [← hh, Bd.state]; rfl
  have N0 := Fr.nil n0
  have w_0 := hw _ (List.mem_of_getElem? (l := tables_1) (i := 0) rfl)
  have w_48 := hw _ (List.mem_of_getElem? (l := tables_1) (i := 48) rfl)
  have w_53 := hw _ (List.mem_of_getElem? (l := tables_1) (i := 53) rfl)
  have w_54 := hw _ (List.mem_of_getElem? (l := tables_1) (i := 54) rfl)
  have w_55 := hw _ (List.mem_of_getElem? (l := tables_1) (i := 55) rfl)
  have w_56 := hw _ (List.mem_of_getElem? (l := tables_1) (i := 56) rfl)
  have w_57 := hw _ (List.mem_of_getElem? (l := tables_1) (i := 57) rfl)
  have w_58 := hw _ (List.mem_of_getElem? (l := tables_1) (i := 58) rfl)
  have w_59 := hw _ (List.mem_of_getElem? (l := tables_1) (i := 59) rfl)
  have w_60 := hw _ (List.mem_of_getElem? (l := tables_1) (i := 60) rfl)
  have w_61 := hw _ (List.mem_of_getElem? (l := tables_1) (i := 61) rfl)
  have w_62 := hw _ (List.mem_of_getElem? (l := tables_1) (i := 62) rfl)
  have w_63 := hw _ (List.mem_of_getElem? (l := tables_1) (i := 63) rfl)
  show own_G p.tables e below (fun o U' => ∃ v L, o = .returned v ∧ (own_cb_Q Z pb xx h0 n0) v U'.heap L ∧ FrameEnd s o U' L ({ frames := 1, cells := 1, slots := 1, locals := 40 } : Room).cells ({ frames := 1, cells := 1, slots := 1, locals := 40 } : Room).slots) (s₁.setTop (entryFrame m #[(.ref pb), (.int (4 : Int32)), (.int (5 : Int32))] 5))
  refine own_go (B := s₁.setTop (mkF m 0 #[rv pb, iv (4 : Int32), iv (5 : Int32), .unset, .unset] [])) (fun t k => castTop (own_cb_ef m pb) k) ?_
  have K0 := Keep.refl h0 []
  refine own_go (B := (s₁.setTop (mkF m 1 #[rv pb, iv (4 : Int32), iv (5 : Int32), .unset, .unset] [(.int (4 : Int32))]))) (fun t k => XS.iloadN X0.here hx rfl (hb hby own_cb_d0) rfl k) ?_
  refine own_go (B := (s₁.setTop (mkF m 2 #[rv pb, iv (4 : Int32), iv (5 : Int32), .unset, .unset] [(.int (5 : Int32)), (.int (4 : Int32))]))) (fun t k => XS.iloadN X0.here hx rfl (hb hby own_cb_d1) rfl k) ?_
  obtain ⟨_, _, ⟨T1, L1, k1, n1⟩, -, X1, ⟨Lc1, hQ1, l1, y1, z1⟩, st1⟩ := Jvm.LawKit.callS X0 hx (y := own_y3) hown (mvT hZ w_53) (mvT hZ w_54) (mvT hZ w_48) (mvT hZ w_55) (by decide) (backOf (W := 0) (own_ck l Z a0 hw [] h0 n0) hZ w_55 w_48 (by decide) (by decide)) (g := (mkF m 2 #[rv pb, iv (4 : Int32), iv (5 : Int32), .unset, .unset] [(.int (5 : Int32)), (.int (4 : Int32))])) rfl (by rw [hml]; rfl) (argsL := [(.int (4 : Int32)), (.int (5 : Int32))]) (rest := []) (lenOf own_pd3 rfl) rfl (by show 2 * 0 + _ ≤ _; exact own_b rfl) (hb hby own_cb_d2) (fun _ _ => ⟨rfl, e0, (own_b rfl : 0 + 0 ≤ _), (own_b rfl : 0 + 0 ≤ _)⟩)
  dsimp only [Pt.U, Pt.locs, Pt.cells, Pt.slots] at X1 l1 y1 z1 st1 hQ1
  obtain ⟨rfl, Nq1, eq1⟩ := hQ1
  obtain ⟨L1, X1, N1⟩ := own_absC (K := 0) (K' := 0) X1 l1 y1 z1 N0 Nq1
  have e1 : T1.heap = h0 := eq1
  refine own_go (B := (T1.setTop (mkF m 5 #[rv pb, iv (4 : Int32), iv (5 : Int32), .unset, .unset] []))) st1 ?_
  refine own_go (B := (T1.setTop (mkF m 6 #[rv pb, iv (4 : Int32), iv (5 : Int32), .unset, .unset] [(.int (5 : Int32))]))) (fun t k => XS.iloadN X1.here hx rfl (hb hby own_cb_d5) rfl k) ?_
  refine own_go (B := (T1.setTop (mkF m 7 #[rv pb, iv (4 : Int32), iv (5 : Int32), .unset, .unset] [(.int (4 : Int32)), (.int (5 : Int32))]))) (fun t k => XS.iloadN X1.here hx rfl (hb hby own_cb_d6) rfl k) ?_
  refine own_go (B := (T1.setTop (mkF m 8 #[rv pb, iv (4 : Int32), iv (5 : Int32), .unset, .unset] [(.int ((5 : Int32) - (4 : Int32)))]))) (fun t k => XS.isub (x := (5 : Int32)) (y := (4 : Int32)) X1.here hx rfl (hb hby own_cb_d7) rfl k) ?_
  rw [show ((5 : Int32) - (4 : Int32)) = (1 : Int32) from by decide]
  refine own_go (B := (T1.setTop (mkF m 9 #[rv pb, iv (4 : Int32), iv (5 : Int32), iv (1 : Int32), .unset] []))) (fun t k => XS.istoreN X1.here hx rfl (hb hby own_cb_d8) rfl (l' := #[rv pb, iv (4 : Int32), iv (5 : Int32), iv (1 : Int32), .unset]) rfl k) ?_
  refine own_go (B := (T1.setTop (mkF m 10 #[rv pb, iv (4 : Int32), iv (5 : Int32), iv (1 : Int32), .unset] [(.int (1 : Int32))]))) (fun t k => XS.iloadN X1.here hx rfl (hb hby own_cb_d9) rfl k) ?_
  obtain ⟨T2, h2, c2, X2, e2, E2, A2, st2⟩ := newP X1 hx hZ (aty := .byte) w_0 e1 (g := (mkF m 10 #[rv pb, iv (4 : Int32), iv (5 : Int32), iv (1 : Int32), .unset] [(.int (1 : Int32))])) rfl (hb hby own_cb_d10) rfl (by decide) (cap := 1) (by decide) (by decide) (own_b rfl) (own_b rfl)
  obtain ⟨a2, ga2⟩ : ∃ z, z = h0.size := ⟨_, rfl⟩
  rw [← ga2] at A2 st2
  refine own_go (B := (T2.setTop (mkF m 12 #[rv pb, iv (4 : Int32), iv (5 : Int32), iv (1 : Int32), .unset] [(.ref a2)]))) st2 ?_
  have Z3 : n0 ≤ h2.size := Nat.le_trans Z0 E2.1
  have V4 := own_Ar_ext V0 E2
  have K5 := Keep.ext K0 E2
  have gn2 : n0 ≤ a2 := Nat.le_trans Z0 (Nat.le_of_eq ga2.symm)
  have ne2_pb : a2 ≠ pb := fun q => absurd (own_Ar_lt V0) (by rw [← q, ga2]; exact Nat.lt_irrefl _)
  have V2 : own_Ar Z h2 a2 .byte [(.int (0 : Int32))] := own_Ar_new A2 (N := 1) (by decide) rfl
  refine own_go (B := (T2.setTop (mkF m 14 #[rv pb, iv (4 : Int32), iv (5 : Int32), iv (1 : Int32), rv a2] []))) (fun t k => XS.astore X2.here hx rfl (hb hby own_cb_d12) rfl rfl (l' := #[rv pb, iv (4 : Int32), iv (5 : Int32), iv (1 : Int32), rv a2]) rfl k) ?_
  refine own_go (B := (T2.setTop (mkF m 15 #[rv pb, iv (4 : Int32), iv (5 : Int32), iv (1 : Int32), rv a2] [(.ref pb)]))) (fun t k => XS.aloadN X2.here hx rfl (hb hby own_cb_d14) rfl rfl k) ?_
  refine own_go (B := (T2.setTop (mkF m 16 #[rv pb, iv (4 : Int32), iv (5 : Int32), iv (1 : Int32), rv a2] [(.int (4 : Int32)), (.ref pb)]))) (fun t k => XS.iloadN X2.here hx rfl (hb hby own_cb_d15) rfl k) ?_
  refine own_go (B := (T2.setTop (mkF m 18 #[rv pb, iv (4 : Int32), iv (5 : Int32), iv (1 : Int32), rv a2] [(.ref a2), (.int (4 : Int32)), (.ref pb)]))) (fun t k => XS.aload X2.here hx rfl (hb hby own_cb_d16) rfl rfl k) ?_
  refine own_go (B := (T2.setTop (mkF m 19 #[rv pb, iv (4 : Int32), iv (5 : Int32), iv (1 : Int32), rv a2] [(.int (0 : Int32)), (.ref a2), (.int (4 : Int32)), (.ref pb)]))) (fun t k => own_iconst (v := (0 : Int32)) X2.here hx rfl (hb hby own_cb_d18) (by decide) k) ?_
  refine own_go (B := (T2.setTop (mkF m 20 #[rv pb, iv (4 : Int32), iv (5 : Int32), iv (1 : Int32), rv a2] [(.ref pb), (.int (0 : Int32)), (.ref a2), (.int (4 : Int32)), (.ref pb)]))) (fun t k => XS.aloadN X2.here hx rfl (hb hby own_cb_d19) rfl rfl k) ?_
  refine own_go (B := (T2.setTop (mkF m 21 #[rv pb, iv (4 : Int32), iv (5 : Int32), iv (1 : Int32), rv a2] [(.int (5 : Int32)), (.int (0 : Int32)), (.ref a2), (.int (4 : Int32)), (.ref pb)]))) (own_alen X2 hx hZ e2 V4 (n := (5 : Int32)) (own_lenL (n := 5) rfl (by decide)) (g := (mkF m 20 #[rv pb, iv (4 : Int32), iv (5 : Int32), iv (1 : Int32), rv a2] [(.ref pb), (.int (0 : Int32)), (.ref a2), (.int (4 : Int32)), (.ref pb)])) rfl rfl (hb hby own_cb_d20)) ?_
  refine own_go (B := (T2.setTop (mkF m 22 #[rv pb, iv (4 : Int32), iv (5 : Int32), iv (1 : Int32), rv a2] [(.int (4 : Int32)), (.int (5 : Int32)), (.int (0 : Int32)), (.ref a2), (.int (4 : Int32)), (.ref pb)]))) (fun t k => XS.iloadN X2.here hx rfl (hb hby own_cb_d21) rfl k) ?_
  refine own_go (B := (T2.setTop (mkF m 23 #[rv pb, iv (4 : Int32), iv (5 : Int32), iv (1 : Int32), rv a2] [(.int ((5 : Int32) - (4 : Int32))), (.int (0 : Int32)), (.ref a2), (.int (4 : Int32)), (.ref pb)]))) (fun t k => XS.isub (x := (5 : Int32)) (y := (4 : Int32)) X2.here hx rfl (hb hby own_cb_d22) rfl k) ?_
  rw [show ((5 : Int32) - (4 : Int32)) = (1 : Int32) from by decide]
  refine own_go (B := (T2.setTop (mkF m 24 #[rv pb, iv (4 : Int32), iv (5 : Int32), iv (1 : Int32), rv a2] [(.int (1 : Int32)), (.int (1 : Int32)), (.int (0 : Int32)), (.ref a2), (.int (4 : Int32)), (.ref pb)]))) (fun t k => XS.iloadN X2.here hx rfl (hb hby own_cb_d23) rfl k) ?_
  obtain ⟨_, _, ⟨T6, L6, k6, n6⟩, -, X6, ⟨Lc6, hQ6, l6, y6, z6⟩, st6⟩ := Jvm.LawKit.callS X2 hx (y := own_y4) hown (mvT hZ w_56) (mvT hZ w_57) (mvT hZ w_58) (mvT hZ w_59) (by decide) (backOf (W := 4) (own_mmin l Z a0 hw [] (1 : Int32) (1 : Int32) h2 n0) hZ w_59 w_58 (by decide) (by decide)) (g := (mkF m 24 #[rv pb, iv (4 : Int32), iv (5 : Int32), iv (1 : Int32), rv a2] [(.int (1 : Int32)), (.int (1 : Int32)), (.int (0 : Int32)), (.ref a2), (.int (4 : Int32)), (.ref pb)])) rfl (by rw [hml]; rfl) (argsL := [(.int (1 : Int32)), (.int (1 : Int32))]) (rest := [(.int (0 : Int32)), (.ref a2), (.int (4 : Int32)), (.ref pb)]) (lenOf own_pd4 rfl) rfl (by show 2 * 0 + _ ≤ _; exact own_b rfl) (hb hby own_cb_d24) (fun _ _ => ⟨rfl, e2, (own_b rfl : 1 + 0 ≤ _), (own_b rfl : 1 + 0 ≤ _)⟩)
  dsimp only [Pt.U, Pt.locs, Pt.cells, Pt.slots] at X6 l6 y6 z6 st6 hQ6
  obtain ⟨rfl, Nq6, eq6⟩ := hQ6
  obtain ⟨L6, X6, N6⟩ := own_absC (K := 1) (K' := 1) X6 l6 y6 z6 N1 Nq6
  have e6 : T6.heap = h2 := eq6
  refine own_go (B := (T6.setTop (mkF m 27 #[rv pb, iv (4 : Int32), iv (5 : Int32), iv (1 : Int32), rv a2] [(.int (own_min (1 : Int32) (1 : Int32))), (.int (0 : Int32)), (.ref a2), (.int (4 : Int32)), (.ref pb)]))) st6 ?_
  rw [show own_min (1 : Int32) (1 : Int32) = (1 : Int32) from by decide]
  obtain ⟨ks7, Vs7⟩ := own_arv_of (z := (5 : Int32)) (dv := .int (0 : Int32)) V4 (show (5 : Int32).toNatClampNeg = 5 from by decide) (by decide) (own_fits5 hfx)
  obtain ⟨kd7, Vd7⟩ := own_arv_of (z := (1 : Int32)) (dv := .int (0 : Int32)) V2 (show (1 : Int32).toNatClampNeg = 1 from by decide) (by decide) own_fits1
  obtain ⟨T7, h7, L7, X7, e7, N7, K7, V7, st7⟩ := cpA X6 hx hZ hown w_60 w_63 w_61 w_62 e6 (us := [(.int xx)]) (sp := (4 : Int32)) (dp := (0 : Int32)) (nn := (1 : Int32)) Vs7 Vd7 (Or.inl ⟨rfl, rfl⟩) (by decide) (by decide) (by decide) (by decide) (by decide) rfl (by decide) N6 gn2 (g := (mkF m 27 #[rv pb, iv (4 : Int32), iv (5 : Int32), iv (1 : Int32), rv a2] [(.int (1 : Int32)), (.int (0 : Int32)), (.ref a2), (.int (4 : Int32)), (.ref pb)])) rfl (by rw [hml]; rfl) rfl (hb hby own_cb_d27) (by decide) (W := 0) (by show 2 * 0 + _ ≤ _; exact own_b rfl) (by decide)
  refine own_go (B := (T7.setTop (mkF m 30 #[rv pb, iv (4 : Int32), iv (5 : Int32), iv (1 : Int32), rv a2] []))) st7 ?_
  have F8 : n0 ≤ h7.size := Nat.le_trans Z3 K7.1
  have F9 := own_Ar_keep V4 K7 (ninS (Ne.symm ne2_pb) nin0)
  have F10 := Keep.trans K5 K7 (allS (Or.inr (Nat.le_trans K0.1 (Nat.le_of_eq ga2.symm))) all0)
  have VF7 : own_Ar Z h7 a2 .byte [(.int xx)] := own_ar_of V7 (show (1 : Int32).toNatClampNeg = 1 from by decide)
  refine own_go (B := (T7.setTop (mkF m 32 #[rv pb, iv (4 : Int32), iv (5 : Int32), iv (1 : Int32), rv a2] [(.ref a2)]))) (fun t k => XS.aload X7.here hx rfl (hb hby own_cb_d30) rfl rfl k) ?_
  exact own_retA X7 hx hlk Bd.returns rfl rfl (hb hby own_cb_d32) (own_b rfl) (own_b rfl) (Q := (own_cb_Q Z pb xx h0 n0)) (by rw [e7]; exact ⟨_, rfl, N7, F10, Nat.le_of_eq ga2.symm, VF7⟩)

theorem own_cr_d0 : decode jdk_65_method_132_code 0 = .ok (.iload_n 1, 1) := by decide +kernel
theorem own_cr_d1 : decode jdk_65_method_132_code 1 = .ok (.ifCond .ne 9, 3) := by decide +kernel
theorem own_cr_d10 : decode jdk_65_method_132_code 10 = .ok (.aload_n 0, 1) := by decide +kernel
theorem own_cr_d11 : decode jdk_65_method_132_code 11 = .ok (.iload_n 1, 1) := by decide +kernel
theorem own_cr_d12 : decode jdk_65_method_132_code 12 = .ok (.iload_n 2, 1) := by decide +kernel
theorem own_cr_d13 : decode jdk_65_method_132_code 13 = .ok (.invokestatic 339, 3) := by decide +kernel
theorem own_cr_d16 : decode jdk_65_method_132_code 16 = .ok (.areturn, 1) := by decide +kernel
theorem own_cr_pn : plainName "java/util/Arrays" = true := by first | (simp [plainName, overriddenIn]; done) | decide +kernel
theorem own_cr_ef (m : MethodId) (pb : Addr) : entryFrame m #[(.ref pb), (.int (4 : Int32)), (.int (5 : Int32))] 3 = mkF m 0 #[rv pb, iv (4 : Int32), iv (5 : Int32)] [] := by first | (simp [entryFrame, mkF, argsToLocals, Value.category]; done) | rfl
def own_cr_Q (Z : State) (pb : Addr) (xx : Int32) (h0 : Heap) (n0 : Nat) (v : Option Value) (h : Heap) (L : List Loc) : Prop := ∃ b, v = some (.ref b) ∧ Fr n0 L ∧ Keep h0 h [] ∧ h0.size ≤ b ∧ own_Ar Z h b .byte [(.int xx)]
set_option maxRecDepth 65536 in
set_option maxHeartbeats 40000000 in
theorem own_cr (l : Launch) (Z : State) (a0 : Array Value) (hw : ∀ d ∈ tables_1, d.before a0 Z = true) (ws : List Jvm.Cond) (pb : Addr) (xx : Int32) (h0 : Heap) (n0 : Nat) (Z0 : n0 ≤ h0.size) (V0 : own_Ar Z h0 pb .byte [(.int (5 : Int32)), (.int (0 : Int32)), (.int (6 : Int32)), (.int (1 : Int32)), (.int xx)]) (hfx : fits .byte (.int xx) = true) :
    MetFree l own_y6 (head1 (Jvm.Cond.code own_y6 jdk_65_method_132_code 3 (some (.array .byte)) :: ws) ({ frames := 2, cells := 1, slots := 1, locals := 56 } : Room)) (fun a U => a = #[(.ref pb), (.int (4 : Int32)), (.int (5 : Int32))] ∧ Z.Warmed39 U.vm ∧ U.heap = h0) (fun _ _ _ _ _ => True) (fun _ U o U' => ∃ v L, o = .returned v ∧ (own_cr_Q Z pb xx h0 n0) v U'.heap L ∧ FrameEnd U o U' L ({ frames := 2, cells := 1, slots := 1, locals := 56 } : Room).cells ({ frames := 2, cells := 1, slots := 1, locals := 56 } : Room).slots) := by
  refine MetFree.of_bodySF (plainFor_of_name own_cr_pn) hisR ?_
  intro p e s m args below meth c s₁ Bd hml0 hP hK
  obtain ⟨rfl, hZ, hh⟩ := hP
  have hx := Bd.exec
  have hby := Bd.bytes
  have hml : c.maxLocals = 3 := hml0
  have hown : s.vm.findClass "java/util/Arrays" = some m.cls := findClass_of_methodNamed Bd.named
  have hnm := (name_of_methodNamed Bd.named Bd.method).1
  have hlk : meth.locks = false := Bd.notSynchronized
  have X0 : Stand p l e ({ frames := 2, cells := 1, slots := 1, locals := 56 } : Room) s m #[(.ref pb), (.int (4 : Int32)), (.int (5 : Int32))] below meth c s₁ [] 0 0 := Stand.of_body Bd
  have e0 : s₁.heap = h0 := by rw [← hh, Bd.state]; rfl
  have N0 := Fr.nil n0
  have w_48 := hw _ (List.mem_of_getElem? (l := tables_1) (i := 48) rfl)
  have w_50 := hw _ (List.mem_of_getElem? (l := tables_1) (i := 50) rfl)
  have w_51 := hw _ (List.mem_of_getElem? (l := tables_1) (i := 51) rfl)
  have w_52 := hw _ (List.mem_of_getElem? (l := tables_1) (i := 52) rfl)
  show own_G p.tables e below (fun o U' => ∃ v L, o = .returned v ∧ (own_cr_Q Z pb xx h0 n0) v U'.heap L ∧ FrameEnd s o U' L ({ frames := 2, cells := 1, slots := 1, locals := 56 } : Room).cells ({ frames := 2, cells := 1, slots := 1, locals := 56 } : Room).slots) (s₁.setTop (entryFrame m #[(.ref pb), (.int (4 : Int32)), (.int (5 : Int32))] 3))
  refine own_go (B := s₁.setTop (mkF m 0 #[rv pb, iv (4 : Int32), iv (5 : Int32)] [])) (fun t k => castTop (own_cr_ef m pb) k) ?_
  have K0 := Keep.refl h0 []
  refine own_go (B := (s₁.setTop (mkF m 1 #[rv pb, iv (4 : Int32), iv (5 : Int32)] [(.int (4 : Int32))]))) (fun t k => XS.iloadN X0.here hx rfl (hb hby own_cr_d0) rfl k) ?_
  have hc1 : ¬ (4 : Int32) = (0 : Int32) := (by decide)
  refine own_ifY X0 hx (hb hby own_cr_d1) (pc' := 10) (by decide) (by decide) hc1 ?_
  refine own_go (B := (s₁.setTop (mkF m 11 #[rv pb, iv (4 : Int32), iv (5 : Int32)] [(.ref pb)]))) (fun t k => XS.aloadN X0.here hx rfl (hb hby own_cr_d10) rfl rfl k) ?_
  refine own_go (B := (s₁.setTop (mkF m 12 #[rv pb, iv (4 : Int32), iv (5 : Int32)] [(.int (4 : Int32)), (.ref pb)]))) (fun t k => XS.iloadN X0.here hx rfl (hb hby own_cr_d11) rfl k) ?_
  refine own_go (B := (s₁.setTop (mkF m 13 #[rv pb, iv (4 : Int32), iv (5 : Int32)] [(.int (5 : Int32)), (.int (4 : Int32)), (.ref pb)]))) (fun t k => XS.iloadN X0.here hx rfl (hb hby own_cr_d12) rfl k) ?_
  obtain ⟨_, _, ⟨T1, L1, k1, n1⟩, -, X1, ⟨Lc1, hQ1, l1, y1, z1⟩, st1⟩ := Jvm.LawKit.callS X0 hx (y := own_y5) hown (mvT hZ w_50) (mvT hZ w_51) (mvT hZ w_48) (mvT hZ w_52) (by decide) (backOf (W := 0) (own_cb l Z a0 hw [] pb xx h0 n0 Z0 V0 hfx) hZ w_52 w_48 (by decide) (by decide)) (g := (mkF m 13 #[rv pb, iv (4 : Int32), iv (5 : Int32)] [(.int (5 : Int32)), (.int (4 : Int32)), (.ref pb)])) rfl (by rw [hml]; rfl) (argsL := [(.ref pb), (.int (4 : Int32)), (.int (5 : Int32))]) (rest := []) (lenOf own_pd5 rfl) rfl (by show 2 * 0 + _ ≤ _; exact own_b rfl) (hb hby own_cr_d13) (fun _ _ => ⟨rfl, e0, (own_b rfl : 0 + 1 ≤ _), (own_b rfl : 0 + 1 ≤ _)⟩)
  dsimp only [Pt.U, Pt.locs, Pt.cells, Pt.slots] at X1 l1 y1 z1 st1 hQ1
  obtain ⟨b1, rfl, Nq1, K1, gz1, gv1⟩ := hQ1
  obtain ⟨L1, X1, N1⟩ := own_absC (K := 1) (K' := 1) X1 l1 y1 z1 N0 Nq1
  have gn_b1 : n0 ≤ b1 := Nat.le_trans Z0 gz1
  have F2 : n0 ≤ T1.heap.size := Nat.le_trans Z0 K1.1
  have F3 := own_Ar_keep V0 K1 nin0
  have F4 := Keep.trans K0 K1 all0
  refine own_go (B := (T1.setTop (mkF m 16 #[rv pb, iv (4 : Int32), iv (5 : Int32)] [(.ref b1)]))) st1 ?_
  exact own_retA X1 hx hlk Bd.returns rfl rfl (hb hby own_cr_d16) (own_b rfl) (own_b rfl) (Q := (own_cr_Q Z pb xx h0 n0)) ⟨_, rfl, N1, F4, gz1, gv1⟩

theorem own_oi_d0 : decode prog_1_method_5_code 0 = .ok (.aload_n 0, 1) := by decide +kernel
theorem own_oi_d1 : decode prog_1_method_5_code 1 = .ok (.bipush 6, 2) := by decide +kernel
theorem own_oi_d3 : decode prog_1_method_5_code 3 = .ok (.ldc 51, 2) := by decide +kernel
theorem own_oi_d5 : decode prog_1_method_5_code 5 = .ok (.invokevirtual 25, 3) := by decide +kernel
theorem own_oi_d8 : decode prog_1_method_5_code 8 = .ok (.istore_n 1, 1) := by decide +kernel
theorem own_oi_d9 : decode prog_1_method_5_code 9 = .ok (.aload_n 0, 1) := by decide +kernel
theorem own_oi_d10 : decode prog_1_method_5_code 10 = .ok (.getfield 12, 3) := by decide +kernel
theorem own_oi_d13 : decode prog_1_method_5_code 13 = .ok (.aload_n 0, 1) := by decide +kernel
theorem own_oi_d14 : decode prog_1_method_5_code 14 = .ok (.getfield 16, 3) := by decide +kernel
theorem own_oi_d17 : decode prog_1_method_5_code 17 = .ok (.aload_n 0, 1) := by decide +kernel
theorem own_oi_d18 : decode prog_1_method_5_code 18 = .ok (.getfield 16, 3) := by decide +kernel
theorem own_oi_d21 : decode prog_1_method_5_code 21 = .ok (.iload_n 1, 1) := by decide +kernel
theorem own_oi_d22 : decode prog_1_method_5_code 22 = .ok (.iadd, 1) := by decide +kernel
theorem own_oi_d23 : decode prog_1_method_5_code 23 = .ok (.invokestatic 42, 3) := by decide +kernel
theorem own_oi_d26 : decode prog_1_method_5_code 26 = .ok (.astore_n 2, 1) := by decide +kernel
theorem own_oi_d27 : decode prog_1_method_5_code 27 = .ok (.aload_n 0, 1) := by decide +kernel
theorem own_oi_d28 : decode prog_1_method_5_code 28 = .ok (.dup, 1) := by decide +kernel
theorem own_oi_d29 : decode prog_1_method_5_code 29 = .ok (.getfield 16, 3) := by decide +kernel
theorem own_oi_d32 : decode prog_1_method_5_code 32 = .ok (.iload_n 1, 1) := by decide +kernel
theorem own_oi_d33 : decode prog_1_method_5_code 33 = .ok (.iadd, 1) := by decide +kernel
theorem own_oi_d34 : decode prog_1_method_5_code 34 = .ok (.putfield 16, 3) := by decide +kernel
theorem own_oi_d37 : decode prog_1_method_5_code 37 = .ok (.aload_n 2, 1) := by decide +kernel
theorem own_oi_d38 : decode prog_1_method_5_code 38 = .ok (.areturn, 1) := by decide +kernel
theorem own_oi_pn : plainName "com/example/honeybee/honeybee/device/DerReader" = true := by first | (simp [plainName, overriddenIn]; done) | decide +kernel
theorem own_oi_ef (m : MethodId) (th : Addr) : entryFrame m #[(.ref th)] 3 = mkF m 0 #[rv th, .unset, .unset] [] := by first | (simp [entryFrame, mkF, argsToLocals, Value.category]; done) | rfl
def own_oi_Q (Z : State) (th : Addr) (ba : Addr) (xx : Int32) (h0 : Heap) (n0 : Nat) (v : Option Value) (h : Heap) (L : List Loc) : Prop := ∃ b, v = some (.ref b) ∧ Fr n0 L ∧ Exa Z h th "com/example/honeybee/honeybee/device/DerReader" ∧ Fld Z h th "com/example/honeybee/honeybee/device/DerReader" "position" "I" (.int (5 : Int32)) ∧ Fld Z h th "com/example/honeybee/honeybee/device/DerReader" "end" "I" (.int (5 : Int32)) ∧ own_Ar Z h b .byte [(.int xx)]
set_option maxRecDepth 65536 in
set_option maxHeartbeats 40000000 in
theorem own_oi (l : Launch) (Z : State) (a0 : Array Value) (hw : ∀ d ∈ tables_1, d.before a0 Z = true) (ws : List Jvm.Cond) (th : Addr) (ba : Addr) (xx : Int32) (h0 : Heap) (n0 : Nat) (Z0 : n0 ≤ h0.size) (E0 : Exa Z h0 th "com/example/honeybee/honeybee/device/DerReader") (g0 : n0 ≤ th) (F9000 : Fld Z h0 th "com/example/honeybee/honeybee/device/DerReader" "bytes" "[B" (.ref ba)) (F9001 : Fld Z h0 th "com/example/honeybee/honeybee/device/DerReader" "position" "I" (.int (2 : Int32))) (F9002 : Fld Z h0 th "com/example/honeybee/honeybee/device/DerReader" "end" "I" (.int (5 : Int32))) (V0 : own_Ar Z h0 ba .byte [(.int (5 : Int32)), (.int (0 : Int32)), (.int (6 : Int32)), (.int (1 : Int32)), (.int xx)]) (hfx : fits .byte (.int xx) = true) :
    MetFree l own_y9 (head1 (Jvm.Cond.code own_y9 prog_1_method_5_code 3 (some (.array .byte)) :: ws) ({ frames := 3, cells := 3, slots := 73, locals := 70 } : Room)) (fun a U => a = #[(.ref th)] ∧ Z.Warmed39 U.vm ∧ U.heap = h0) (fun _ _ _ _ _ => True) (fun _ U o U' => ∃ v L, o = .returned v ∧ (own_oi_Q Z th ba xx h0 n0) v U'.heap L ∧ ReturnedEndW U o U' L ({ frames := 3, cells := 3, slots := 73, locals := 70 } : Room).cells ({ frames := 3, cells := 3, slots := 73, locals := 70 } : Room).slots) := by
  refine MetFree.of_bodySF (plainFor_of_name own_oi_pn) hisR ?_
  intro p e s m args below meth c s₁ Bd hml0 hP hK
  obtain ⟨rfl, hZ, hh⟩ := hP
  have hx := Bd.exec
  have hby := Bd.bytes
  have hml : c.maxLocals = 3 := hml0
  have hown : s.vm.findClass "com/example/honeybee/honeybee/device/DerReader" = some m.cls := findClass_of_methodNamed Bd.named
  have hnm := (name_of_methodNamed Bd.named Bd.method).1
  have hlk : meth.locks = false := Bd.notSynchronized
  have X0 : Stand p l e ({ frames := 3, cells := 3, slots := 73, locals := 70 } : Room) (s.setVm s.vm) m #[(.ref th)] below meth c s₁ [] 0 0 := Stand.of_body Bd
  have hS0 : s.Since s.vm 0 := own_since0 s 0
  have hk0 : 0 ≤ h0.size := Nat.zero_le _
  have hws := own_hws hw
  have e0 : s₁.heap = h0 := by rw [← hh, Bd.state]; rfl
  have N0 := Fr.nil n0
  have w_2 := hw _ (List.mem_of_getElem? (l := tables_1) (i := 2) rfl)
  have w_3 := hw _ (List.mem_of_getElem? (l := tables_1) (i := 3) rfl)
  have w_13 := hw _ (List.mem_of_getElem? (l := tables_1) (i := 13) rfl)
  have w_14 := hw _ (List.mem_of_getElem? (l := tables_1) (i := 14) rfl)
  have w_15 := hw _ (List.mem_of_getElem? (l := tables_1) (i := 15) rfl)
  have w_16 := hw _ (List.mem_of_getElem? (l := tables_1) (i := 16) rfl)
  have w_18 := hw _ (List.mem_of_getElem? (l := tables_1) (i := 18) rfl)
  have w_31 := hw _ (List.mem_of_getElem? (l := tables_1) (i := 31) rfl)
  have w_32 := hw _ (List.mem_of_getElem? (l := tables_1) (i := 32) rfl)
  have w_33 := hw _ (List.mem_of_getElem? (l := tables_1) (i := 33) rfl)
  have w_34 := hw _ (List.mem_of_getElem? (l := tables_1) (i := 34) rfl)
  have w_45 := hw _ (List.mem_of_getElem? (l := tables_1) (i := 45) rfl)
  have w_46 := hw _ (List.mem_of_getElem? (l := tables_1) (i := 46) rfl)
  have w_47 := hw _ (List.mem_of_getElem? (l := tables_1) (i := 47) rfl)
  have w_48 := hw _ (List.mem_of_getElem? (l := tables_1) (i := 48) rfl)
  have w_49 := hw _ (List.mem_of_getElem? (l := tables_1) (i := 49) rfl)
  show own_G p.tables e below (fun o U' => ∃ v L, o = .returned v ∧ (own_oi_Q Z th ba xx h0 n0) v U'.heap L ∧ ReturnedEndW s o U' L ({ frames := 3, cells := 3, slots := 73, locals := 70 } : Room).cells ({ frames := 3, cells := 3, slots := 73, locals := 70 } : Room).slots) (s₁.setTop (entryFrame m #[(.ref th)] 3))
  refine own_go (B := s₁.setTop (mkF m 0 #[rv th, .unset, .unset] [])) (fun t k => castTop (own_oi_ef m th) k) ?_
  have nba := own_Ar_ne E0 w_2 V0
  refine own_go (B := (s₁.setTop (mkF m 1 #[rv th, .unset, .unset] [(.ref th)]))) (fun t k => XS.aloadN X0.here hx rfl (hb hby own_oi_d0) rfl rfl k) ?_
  refine own_go (B := (s₁.setTop (mkF m 3 #[rv th, .unset, .unset] [(.int (6 : Int32)), (.ref th)]))) (fun t k => own_bipush (v := (6 : Int32)) X0.here hx rfl (hb hby own_oi_d1) (by decide) k) ?_
  obtain ⟨a1, T1, h1, k1, X1, e1, E1, hS1, hk1, hZ1, ho1, st1⟩ := ldcS (s := s) (vm0 := s.vm) X0 hx hZ hown w_45 hws e0 hS0 hk0 (g := (mkF m 3 #[rv th, .unset, .unset] [(.int (6 : Int32)), (.ref th)])) rfl (hb hby own_oi_d3) (n := 68) (by decide) (by decide) (own_b rfl) (own_b rfl)
  refine own_go (B := (T1.setTop (mkF m 5 #[rv th, .unset, .unset] [(.ref a1), (.int (6 : Int32)), (.ref th)]))) st1 ?_
  have Z2 : n0 ≤ h1.size := Nat.le_trans Z0 E1.1
  have F3 := Exa.ext E1 E0
  have F4 := Fld.ext E1 F9000
  have F5 := Fld.ext E1 F9001
  have F6 := Fld.ext E1 F9002
  have V7 := own_Ar_ext V0 E1
  obtain ⟨pc8, pq8, pr8⟩ := Exa.cell F3
  obtain ⟨_, _, ⟨T8, L8, k8, n8⟩, -, X8, ⟨Lc8, hQ8, l8, y8, z8⟩, st8⟩ := X1.privateBack hx (y := own_y2) ho1 (mvT hZ1 w_31) (mvT hZ1 w_32) (own_selp hZ1 w_2 w_33 w_32 (by decide)) (Cond.privateMethod_at (mvP hZ1 w_33 (args := #[]))) (mvT hZ1 w_34) (by decide) (backOf (W := 0) (own_hd l Z a0 hw [] th (6 : Int32) a1 ba (2 : Int32) (5 : Int32) (4 : Int32) (6 : Int32) (1 : Int32) (1 : Int32) [(.int (5 : Int32)), (.int (0 : Int32)), (.int (6 : Int32)), (.int (1 : Int32)), (.int xx)] h1 n0 Z2 F3 g0 F4 F5 F6 V7 (by decide) (by decide) (by decide) rfl (by decide) rfl (by decide) (by decide) (by decide) (by decide)) hZ1 w_34 w_3 (by decide) (by decide)) (g := (mkF m 5 #[rv th, .unset, .unset] [(.ref a1), (.int (6 : Int32)), (.ref th)])) rfl (by rw [hml]; rfl) (Steps.refl _) (a := th) (by rw [e1]; exact pq8) pr8 (argsL := [(.int (6 : Int32)), (.ref a1)]) (rest := []) (lenOf own_pd2 rfl) rfl (by show 2 * 0 + _ ≤ _; exact own_b rfl) (hb hby own_oi_d5) (fun _ _ => ⟨rfl, e1, (own_b rfl : 2 + 0 ≤ _), (own_b rfl : 72 + 0 ≤ _)⟩)
  dsimp only [Pt.U, Pt.locs, Pt.cells, Pt.slots] at X8 l8 y8 z8 st8 hQ8
  obtain ⟨rfl, Nq8, K8, Ex8, gb8, gp8, ge8⟩ := hQ8
  obtain ⟨L8, X8, N8⟩ := own_absC (K := 2) (K' := 72) X8 l8 y8 z8 N0 Nq8
  have F9 : n0 ≤ T8.heap.size := Nat.le_trans Z2 K8.1
  have F10 := Exa.keep F3 K8
  have F14 := own_Ar_keep V7 K8 (ninS (Ne.symm nba) nin0)
  have F15 : k1 ≤ T8.heap.size := Nat.le_trans hk1 K8.1
  refine own_tr (B := (T8.setTop (mkF m 8 #[rv th, .unset, .unset] [(.int (1 : Int32))]))) st8 ?_
  refine own_go (B := (T8.setTop (mkF m 9 #[rv th, iv (1 : Int32), .unset] []))) (fun t k => XS.istoreN X8.here hx rfl (hb hby own_oi_d8) rfl (l' := #[rv th, iv (1 : Int32), .unset]) rfl k) ?_
  refine own_go (B := (T8.setTop (mkF m 10 #[rv th, iv (1 : Int32), .unset] [(.ref th)]))) (fun t k => XS.aloadN X8.here hx rfl (hb hby own_oi_d9) rfl rfl k) ?_
  obtain ⟨T16, X16, e16, st16⟩ := getF X8 hx hZ1 ho1 (host := "") (Or.inl w_13) Via.refl rfl gb8 (g := (mkF m 10 #[rv th, iv (1 : Int32), .unset] [(.ref th)])) rfl rfl (hb hby own_oi_d10)
  refine own_go (B := (T16.setTop (mkF m 13 #[rv th, iv (1 : Int32), .unset] [(.ref ba)]))) st16 ?_
  refine own_go (B := (T16.setTop (mkF m 14 #[rv th, iv (1 : Int32), .unset] [(.ref th), (.ref ba)]))) (fun t k => XS.aloadN X16.here hx rfl (hb hby own_oi_d13) rfl rfl k) ?_
  obtain ⟨T17, X17, e17, st17⟩ := getF X16 hx hZ1 ho1 (host := "") (Or.inl w_15) Via.refl e16 gp8 (g := (mkF m 14 #[rv th, iv (1 : Int32), .unset] [(.ref th), (.ref ba)])) rfl rfl (hb hby own_oi_d14)
  refine own_go (B := (T17.setTop (mkF m 17 #[rv th, iv (1 : Int32), .unset] [(.int (4 : Int32)), (.ref ba)]))) st17 ?_
  refine own_go (B := (T17.setTop (mkF m 18 #[rv th, iv (1 : Int32), .unset] [(.ref th), (.int (4 : Int32)), (.ref ba)]))) (fun t k => XS.aloadN X17.here hx rfl (hb hby own_oi_d17) rfl rfl k) ?_
  obtain ⟨T18, X18, e18, st18⟩ := getF X17 hx hZ1 ho1 (host := "") (Or.inl w_15) Via.refl e17 gp8 (g := (mkF m 18 #[rv th, iv (1 : Int32), .unset] [(.ref th), (.int (4 : Int32)), (.ref ba)])) rfl rfl (hb hby own_oi_d18)
  refine own_go (B := (T18.setTop (mkF m 21 #[rv th, iv (1 : Int32), .unset] [(.int (4 : Int32)), (.int (4 : Int32)), (.ref ba)]))) st18 ?_
  refine own_go (B := (T18.setTop (mkF m 22 #[rv th, iv (1 : Int32), .unset] [(.int (1 : Int32)), (.int (4 : Int32)), (.int (4 : Int32)), (.ref ba)]))) (fun t k => XS.iloadN X18.here hx rfl (hb hby own_oi_d21) rfl k) ?_
  refine own_go (B := (T18.setTop (mkF m 23 #[rv th, iv (1 : Int32), .unset] [(.int ((4 : Int32) + (1 : Int32))), (.int (4 : Int32)), (.ref ba)]))) (fun t k => XS.iadd (x := (4 : Int32)) (y := (1 : Int32)) X18.here hx rfl (hb hby own_oi_d22) rfl k) ?_
  rw [show ((4 : Int32) + (1 : Int32)) = (5 : Int32) from by decide]
  obtain ⟨_, _, ⟨T19, L19, k19, n19⟩, -, X19, ⟨Lc19, hQ19, l19, y19, z19⟩, st19⟩ := Jvm.LawKit.callS X18 hx (y := own_y6) ho1 (mvT hZ1 w_46) (mvT hZ1 w_47) (mvT hZ1 w_48) (mvT hZ1 w_49) (by decide) (backOf (W := 0) (own_cr l Z a0 hw [] ba xx T8.heap n0 F9 F14 hfx) hZ1 w_49 w_48 (by decide) (by decide)) (g := (mkF m 23 #[rv th, iv (1 : Int32), .unset] [(.int (5 : Int32)), (.int (4 : Int32)), (.ref ba)])) rfl (by rw [hml]; rfl) (argsL := [(.ref ba), (.int (4 : Int32)), (.int (5 : Int32))]) (rest := []) (lenOf own_pd5 rfl) rfl (by show 2 * 0 + _ ≤ _; exact own_b rfl) (hb hby own_oi_d23) (fun _ _ => ⟨rfl, e18, (own_b rfl : 2 + 1 ≤ _), (own_b rfl : 72 + 1 ≤ _)⟩)
  dsimp only [Pt.U, Pt.locs, Pt.cells, Pt.slots] at X19 l19 y19 z19 st19 hQ19
  obtain ⟨b19, rfl, Nq19, K19, gz19, gv19⟩ := hQ19
  obtain ⟨L19, X19, N19⟩ := own_absC (K := 3) (K' := 73) X19 l19 y19 z19 N8 Nq19
  have gn_b19 : n0 ≤ b19 := Nat.le_trans F9 gz19
  have nb19_th : b19 ≠ th := fun q => absurd Ex8.lt (by rw [← q]; exact Nat.not_lt.mpr gz19)
  have F20 : n0 ≤ T19.heap.size := Nat.le_trans F9 K19.1
  have F21 := Exa.keep Ex8 K19
  have F22 := own_Ar_keep F14 K19 nin0
  have F23 : k1 ≤ T19.heap.size := Nat.le_trans F15 K19.1
  have F24 := Fld.keep gb8 K19 nin0
  have F25 := Fld.keep gp8 K19 nin0
  have F26 := Fld.keep ge8 K19 nin0
  refine own_go (B := (T19.setTop (mkF m 26 #[rv th, iv (1 : Int32), .unset] [(.ref b19)]))) st19 ?_
  refine own_go (B := (T19.setTop (mkF m 27 #[rv th, iv (1 : Int32), rv b19] []))) (fun t k => XS.astoreN X19.here hx rfl (hb hby own_oi_d26) rfl rfl (l' := #[rv th, iv (1 : Int32), rv b19]) rfl k) ?_
  refine own_go (B := (T19.setTop (mkF m 28 #[rv th, iv (1 : Int32), rv b19] [(.ref th)]))) (fun t k => XS.aloadN X19.here hx rfl (hb hby own_oi_d27) rfl rfl k) ?_
  refine own_go (B := (T19.setTop (mkF m 29 #[rv th, iv (1 : Int32), rv b19] [(.ref th), (.ref th)]))) (fun t k => XS.dup X19.here hx rfl (hb hby own_oi_d28) rfl rfl k) ?_
  obtain ⟨T27, X27, e27, st27⟩ := getF X19 hx hZ1 ho1 (host := "") (Or.inl w_15) Via.refl rfl F25 (g := (mkF m 29 #[rv th, iv (1 : Int32), rv b19] [(.ref th), (.ref th)])) rfl rfl (hb hby own_oi_d29)
  refine own_go (B := (T27.setTop (mkF m 32 #[rv th, iv (1 : Int32), rv b19] [(.int (4 : Int32)), (.ref th)]))) st27 ?_
  refine own_go (B := (T27.setTop (mkF m 33 #[rv th, iv (1 : Int32), rv b19] [(.int (1 : Int32)), (.int (4 : Int32)), (.ref th)]))) (fun t k => XS.iloadN X27.here hx rfl (hb hby own_oi_d32) rfl k) ?_
  refine own_go (B := (T27.setTop (mkF m 34 #[rv th, iv (1 : Int32), rv b19] [(.int ((4 : Int32) + (1 : Int32))), (.ref th)]))) (fun t k => XS.iadd (x := (4 : Int32)) (y := (1 : Int32)) X27.here hx rfl (hb hby own_oi_d33) rfl k) ?_
  rw [show ((4 : Int32) + (1 : Int32)) = (5 : Int32) from by decide]
  obtain ⟨T28, h28, X28, e28, W28, st28⟩ := putF X27 hx hZ1 ho1 (host := "") (Or.inl w_15) Via.refl e27 F25 F21 (Or.inl w_16) w_2 (ty := .int) (by decide) rfl rfl (g := (mkF m 34 #[rv th, iv (1 : Int32), rv b19] [(.int (5 : Int32)), (.ref th)])) rfl rfl (hb hby own_oi_d34)
  refine own_go (B := (T28.setTop (mkF m 37 #[rv th, iv (1 : Int32), rv b19] []))) st28 ?_
  obtain ⟨L28, X28, N28⟩ := own_abs X28 (Fr.snoc X28 N19 g0)
  have F29 : n0 ≤ h28.size := by rw [W28.size]; exact F20
  have F30 := Exa.wr W28 F21
  have F31 := own_Ar_other F22 W28 (Ne.symm nba)
  have F32 : k1 ≤ h28.size := by rw [W28.size]; exact F23
  have F33 := Fld.other W28 F24 (Or.inr (slot_ne (t := (.array .byte)) (t' := .int) (Or.inr w_14) (Or.inl w_16) (by decide) (by decide) (by decide)))
  have F34 := Fld.same W28 F25
  have F35 := Fld.other W28 F26 (Or.inr (slot_ne (t := .int) (t' := .int) (Or.inr w_18) (Or.inl w_16) (by decide) (by decide) (by decide)))
  have F36 := own_Ar_other gv19 W28 nb19_th
  refine own_go (B := (T28.setTop (mkF m 38 #[rv th, iv (1 : Int32), rv b19] [(.ref b19)]))) (fun t k => XS.aloadN X28.here hx rfl (hb hby own_oi_d37) rfl rfl k) ?_
  exact own_retWA X28 hx hlk hS1 (by rw [e28]; exact F32) Bd.returns rfl rfl (hb hby own_oi_d38) (own_b rfl) (own_b rfl) (Q := (own_oi_Q Z th ba xx h0 n0)) (by rw [e28]; exact ⟨_, rfl, N28, F30, F34, F35, F36⟩)

theorem own_law_pn : plainName "com/example/honeybee/honeybee/device/DerReaderNullValuePinLaw" = true := by first | (simp [plainName, overriddenIn]; done) | decide +kernel
theorem own_law_ef (m : MethodId) (p0 : Int32) (p1 : Int32) : entryFrame m #[(.int p0), (.int p1)] maxLocals = mkF m 0 #[iv p0, iv p1, .unset, .unset, .unset, .unset, .unset, .unset, .unset, .unset] [] := by first | (simp [entryFrame, mkF, argsToLocals, Value.category, maxLocals]; done) | rfl
def own_law_Q (Z : State) (p0 : Int32) (p1 : Int32) (h0 : Heap) (n0 : Nat) (v : Option Value) (h : Heap) (L : List Loc) : Prop := v = some (.int 1) ∧ Fr n0 L
set_option maxRecDepth 65536 in
set_option maxHeartbeats 40000000 in
theorem own_law (l : Launch) (Z : State) (a0 : Array Value) (hw : ∀ d ∈ tables_1, d.before a0 Z = true) (ws : List Jvm.Cond) (p0 : Int32) (p1 : Int32) (h0 : Heap) (n0 : Nat) (Z0 : n0 ≤ h0.size) :
    MetFree l x (head1 (Jvm.Cond.code x code maxLocals ret :: ws) room_1) (fun a U => a = #[(.int p0), (.int p1)] ∧ Z.Warmed39 U.vm ∧ U.heap = h0) (fun _ _ _ _ _ => True) (fun _ U o U' => ∃ v L, o = .returned v ∧ (own_law_Q Z p0 p1 h0 n0) v U'.heap L ∧ ReturnedEndW U o U' L 24 2176) := by
  refine MetFree.of_bodySF (plainFor_of_name own_law_pn) hisR ?_
  intro p e s m args below meth c s₁ Bd hml0 hP hK
  obtain ⟨rfl, hZ, hh⟩ := hP
  have hx := Bd.exec
  have hby := Bd.bytes
  have hml : c.maxLocals = 10 := hml0
  have hown : s.vm.findClass "com/example/honeybee/honeybee/device/DerReaderNullValuePinLaw" = some m.cls := findClass_of_methodNamed Bd.named
  have hnm := (name_of_methodNamed Bd.named Bd.method).1
  have hlk : meth.locks = false := Bd.notSynchronized
  have X0 : Stand p l e room_1 (s.setVm s.vm) m #[(.int p0), (.int p1)] below meth c s₁ [] 0 0 := Stand.of_body Bd
  have hS0 : s.Since s.vm 0 := own_since0 s 0
  have hk0 : 0 ≤ h0.size := Nat.zero_le _
  have hws := own_hws hw
  have e0 : s₁.heap = h0 := by rw [← hh, Bd.state]; rfl
  have N0 := Fr.nil n0
  have w_0 := hw _ (List.mem_of_getElem? (l := tables_1) (i := 0) rfl)
  have w_1 := hw _ (List.mem_of_getElem? (l := tables_1) (i := 1) rfl)
  have w_2 := hw _ (List.mem_of_getElem? (l := tables_1) (i := 2) rfl)
  have w_3 := hw _ (List.mem_of_getElem? (l := tables_1) (i := 3) rfl)
  have w_4 := hw _ (List.mem_of_getElem? (l := tables_1) (i := 4) rfl)
  have w_5 := hw _ (List.mem_of_getElem? (l := tables_1) (i := 5) rfl)
  have w_6 := hw _ (List.mem_of_getElem? (l := tables_1) (i := 6) rfl)
  have w_14 := hw _ (List.mem_of_getElem? (l := tables_1) (i := 14) rfl)
  have w_16 := hw _ (List.mem_of_getElem? (l := tables_1) (i := 16) rfl)
  have w_18 := hw _ (List.mem_of_getElem? (l := tables_1) (i := 18) rfl)
  have w_19 := hw _ (List.mem_of_getElem? (l := tables_1) (i := 19) rfl)
  have w_20 := hw _ (List.mem_of_getElem? (l := tables_1) (i := 20) rfl)
  have w_21 := hw _ (List.mem_of_getElem? (l := tables_1) (i := 21) rfl)
  have w_22 := hw _ (List.mem_of_getElem? (l := tables_1) (i := 22) rfl)
  have w_23 := hw _ (List.mem_of_getElem? (l := tables_1) (i := 23) rfl)
  have w_35 := hw _ (List.mem_of_getElem? (l := tables_1) (i := 35) rfl)
  have w_36 := hw _ (List.mem_of_getElem? (l := tables_1) (i := 36) rfl)
  have w_37 := hw _ (List.mem_of_getElem? (l := tables_1) (i := 37) rfl)
  have w_38 := hw _ (List.mem_of_getElem? (l := tables_1) (i := 38) rfl)
  have w_39 := hw _ (List.mem_of_getElem? (l := tables_1) (i := 39) rfl)
  have w_40 := hw _ (List.mem_of_getElem? (l := tables_1) (i := 40) rfl)
  have w_41 := hw _ (List.mem_of_getElem? (l := tables_1) (i := 41) rfl)
  have w_42 := hw _ (List.mem_of_getElem? (l := tables_1) (i := 42) rfl)
  have w_43 := hw _ (List.mem_of_getElem? (l := tables_1) (i := 43) rfl)
  have w_44 := hw _ (List.mem_of_getElem? (l := tables_1) (i := 44) rfl)
  show own_G p.tables e below (fun o U' => ∃ v L, o = .returned v ∧ (own_law_Q Z p0 p1 h0 n0) v U'.heap L ∧ ReturnedEndW s o U' L 24 2176) (s₁.setTop (entryFrame m #[(.int p0), (.int p1)] maxLocals))
  refine own_go (B := s₁.setTop (mkF m 0 #[iv p0, iv p1, .unset, .unset, .unset, .unset, .unset, .unset, .unset, .unset] [])) (fun t k => castTop (own_law_ef m p0 p1) k) ?_
  have K0 := Keep.refl h0 []
  refine own_go (B := (s₁.setTop (mkF m 1 #[iv p0, iv p1, .unset, .unset, .unset, .unset, .unset, .unset, .unset, .unset] [(.int p0)]))) (fun t k => XS.iloadN X0.here hx rfl (hb hby at_0) rfl k) ?_
  refine own_go (B := (s₁.setTop (mkF m 2 #[iv p0, iv p1, .unset, .unset, .unset, .unset, .unset, .unset, .unset, .unset] [(.int (3 : Int32)), (.int p0)]))) (fun t k => own_iconst (v := (3 : Int32)) X0.here hx rfl (hb hby at_1) (by decide) k) ?_
  refine own_go (B := (s₁.setTop (mkF m 3 #[iv p0, iv p1, .unset, .unset, .unset, .unset, .unset, .unset, .unset, .unset] [(.int (p0 &&& (3 : Int32)))]))) (fun t k => XS.iand (x := p0) (y := (3 : Int32)) X0.here hx rfl (hb hby at_2) rfl k) ?_
  obtain ⟨z3, hz3⟩ : ∃ z : Int32, z = (p0 &&& (3 : Int32)) := ⟨_, rfl⟩
  rw [← hz3]
  refine own_go (B := (s₁.setTop (mkF m 4 #[iv p0, iv p1, iv z3, .unset, .unset, .unset, .unset, .unset, .unset, .unset] []))) (fun t k => XS.istoreN X0.here hx rfl (hb hby at_3) rfl (l' := #[iv p0, iv p1, iv z3, .unset, .unset, .unset, .unset, .unset, .unset, .unset]) rfl k) ?_
  refine own_go (B := (s₁.setTop (mkF m 5 #[iv p0, iv p1, iv z3, .unset, .unset, .unset, .unset, .unset, .unset, .unset] [(.int p1)]))) (fun t k => XS.iloadN X0.here hx rfl (hb hby at_4) rfl k) ?_
  refine own_go (B := (s₁.setTop (mkF m 6 #[iv p0, iv p1, iv z3, .unset, .unset, .unset, .unset, .unset, .unset, .unset] [(.int (p1.toInt8.toInt32))]))) (fun t k => XS.i2b X0.here hx rfl (hb hby at_5) rfl k) ?_
  obtain ⟨z6, hz6⟩ : ∃ z : Int32, z = (p1.toInt8.toInt32) := ⟨_, rfl⟩
  rw [← hz6]
  refine own_go (B := (s₁.setTop (mkF m 7 #[iv p0, iv p1, iv z3, iv z6, .unset, .unset, .unset, .unset, .unset, .unset] []))) (fun t k => XS.istoreN X0.here hx rfl (hb hby at_6) rfl (l' := #[iv p0, iv p1, iv z3, iv z6, .unset, .unset, .unset, .unset, .unset, .unset]) rfl k) ?_
  have hnz : nar .byte z6 = z6 := by rw [hz6]; exact own_i2b p1
  have hfz : fits .byte (.int z6) = true := by rw [hz6]; exact fits_nar_byte p1
  refine own_go (B := (s₁.setTop (mkF m 8 #[iv p0, iv p1, iv z3, iv z6, .unset, .unset, .unset, .unset, .unset, .unset] [(.int (2 : Int32))]))) (fun t k => own_iconst (v := (2 : Int32)) X0.here hx rfl (hb hby at_7) (by decide) k) ?_
  obtain ⟨T1, h1, c1, X1, e1, E1, A1, st1⟩ := newP X0 hx hZ (aty := .byte) w_0 e0 (g := (mkF m 8 #[iv p0, iv p1, iv z3, iv z6, .unset, .unset, .unset, .unset, .unset, .unset] [(.int (2 : Int32))])) rfl (hb hby at_8) rfl (by decide) (cap := 2) (by decide) (by decide) (own_b rfl) (own_b rfl)
  obtain ⟨a1, ga1⟩ : ∃ z, z = h0.size := ⟨_, rfl⟩
  rw [← ga1] at A1 st1
  refine own_go (B := (T1.setTop (mkF m 10 #[iv p0, iv p1, iv z3, iv z6, .unset, .unset, .unset, .unset, .unset, .unset] [(.ref a1)]))) st1 ?_
  have Z2 : 0 ≤ h1.size := Nat.le_trans hk0 E1.1
  have Z3 : n0 ≤ h1.size := Nat.le_trans Z0 E1.1
  have K4 := Keep.ext K0 E1
  have gn1 : n0 ≤ a1 := Nat.le_trans Z0 (Nat.le_of_eq ga1.symm)
  have V1 : own_Ar Z h1 a1 .byte [(.int (0 : Int32)), (.int (0 : Int32))] := own_Ar_new A1 (N := 2) (by decide) rfl
  refine own_go (B := (T1.setTop (mkF m 11 #[iv p0, iv p1, iv z3, iv z6, .unset, .unset, .unset, .unset, .unset, .unset] [(.ref a1), (.ref a1)]))) (fun t k => XS.dup X1.here hx rfl (hb hby at_10) rfl rfl k) ?_
  refine own_go (B := (T1.setTop (mkF m 12 #[iv p0, iv p1, iv z3, iv z6, .unset, .unset, .unset, .unset, .unset, .unset] [(.int (0 : Int32)), (.ref a1), (.ref a1)]))) (fun t k => own_iconst (v := (0 : Int32)) X1.here hx rfl (hb hby at_11) (by decide) k) ?_
  refine own_go (B := (T1.setTop (mkF m 13 #[iv p0, iv p1, iv z3, iv z6, .unset, .unset, .unset, .unset, .unset, .unset] [(.int (5 : Int32)), (.int (0 : Int32)), (.ref a1), (.ref a1)]))) (fun t k => own_iconst (v := (5 : Int32)) X1.here hx rfl (hb hby at_12) (by decide) k) ?_
  obtain ⟨T5, h5, X5, e5, W5, V5, st5⟩ := own_stB X1 hx hZ e1 V1 (i := 0) (by decide) (by decide) (Nat.lt_of_lt_of_eq (by decide : 0 < 2) rfl) (by decide) (L' := [(.int (5 : Int32)), (.int (0 : Int32))]) rfl (g := (mkF m 13 #[iv p0, iv p1, iv z3, iv z6, .unset, .unset, .unset, .unset, .unset, .unset] [(.int (5 : Int32)), (.int (0 : Int32)), (.ref a1), (.ref a1)])) rfl rfl (hb hby at_13)
  refine own_go (B := (T5.setTop (mkF m 14 #[iv p0, iv p1, iv z3, iv z6, .unset, .unset, .unset, .unset, .unset, .unset] [(.ref a1)]))) st5 ?_
  obtain ⟨L5, X5, N5⟩ := own_abs X5 (Fr.snoc X5 N0 gn1)
  have F6 : 0 ≤ h5.size := by rw [W5.size]; exact Z2
  have F7 : n0 ≤ h5.size := by rw [W5.size]; exact Z3
  have F8 := Keep.wr K4 W5 (Or.inr (Nat.le_trans K0.1 (Nat.le_of_eq ga1.symm)))
  refine own_go (B := (T5.setTop (mkF m 15 #[iv p0, iv p1, iv z3, iv z6, .unset, .unset, .unset, .unset, .unset, .unset] [(.ref a1), (.ref a1)]))) (fun t k => XS.dup X5.here hx rfl (hb hby at_14) rfl rfl k) ?_
  refine own_go (B := (T5.setTop (mkF m 16 #[iv p0, iv p1, iv z3, iv z6, .unset, .unset, .unset, .unset, .unset, .unset] [(.int (1 : Int32)), (.ref a1), (.ref a1)]))) (fun t k => own_iconst (v := (1 : Int32)) X5.here hx rfl (hb hby at_15) (by decide) k) ?_
  refine own_go (B := (T5.setTop (mkF m 17 #[iv p0, iv p1, iv z3, iv z6, .unset, .unset, .unset, .unset, .unset, .unset] [(.int (0 : Int32)), (.int (1 : Int32)), (.ref a1), (.ref a1)]))) (fun t k => own_iconst (v := (0 : Int32)) X5.here hx rfl (hb hby at_16) (by decide) k) ?_
  obtain ⟨T10, h10, X10, e10, W10, V10, st10⟩ := own_stB X5 hx hZ e5 V5 (i := 1) (by decide) (by decide) (Nat.lt_of_lt_of_eq (by decide : 1 < 2) rfl) (by decide) (L' := [(.int (5 : Int32)), (.int (0 : Int32))]) rfl (g := (mkF m 17 #[iv p0, iv p1, iv z3, iv z6, .unset, .unset, .unset, .unset, .unset, .unset] [(.int (0 : Int32)), (.int (1 : Int32)), (.ref a1), (.ref a1)])) rfl rfl (hb hby at_17)
  refine own_go (B := (T10.setTop (mkF m 18 #[iv p0, iv p1, iv z3, iv z6, .unset, .unset, .unset, .unset, .unset, .unset] [(.ref a1)]))) st10 ?_
  obtain ⟨L10, X10, N10⟩ := own_abs X10 (Fr.snoc X10 N5 gn1)
  have F11 : 0 ≤ h10.size := by rw [W10.size]; exact F6
  have F12 : n0 ≤ h10.size := by rw [W10.size]; exact F7
  have F13 := Keep.wr F8 W10 (Or.inr (Nat.le_trans K0.1 (Nat.le_of_eq ga1.symm)))
  refine own_go (B := (T10.setTop (mkF m 20 #[iv p0, iv p1, iv z3, iv z6, rv a1, .unset, .unset, .unset, .unset, .unset] []))) (fun t k => XS.astore X10.here hx rfl (hb hby at_18) rfl rfl (l' := #[iv p0, iv p1, iv z3, iv z6, rv a1, .unset, .unset, .unset, .unset, .unset]) rfl k) ?_
  refine own_go (B := (T10.setTop (mkF m 21 #[iv p0, iv p1, iv z3, iv z6, rv a1, .unset, .unset, .unset, .unset, .unset] [(.int (4 : Int32))]))) (fun t k => own_iconst (v := (4 : Int32)) X10.here hx rfl (hb hby at_20) (by decide) k) ?_
  obtain ⟨T15, h15, c15, X15, e15, E15, A15, st15⟩ := newP X10 hx hZ (aty := .byte) w_0 e10 (g := (mkF m 21 #[iv p0, iv p1, iv z3, iv z6, rv a1, .unset, .unset, .unset, .unset, .unset] [(.int (4 : Int32))])) rfl (hb hby at_21) rfl (by decide) (cap := 4) (by decide) (by decide) (own_b rfl) (own_b rfl)
  obtain ⟨a15, ga15⟩ : ∃ z, z = h10.size := ⟨_, rfl⟩
  rw [← ga15] at A15 st15
  refine own_go (B := (T15.setTop (mkF m 23 #[iv p0, iv p1, iv z3, iv z6, rv a1, .unset, .unset, .unset, .unset, .unset] [(.ref a15)]))) st15 ?_
  have Z16 : 0 ≤ h15.size := Nat.le_trans F11 E15.1
  have Z17 : n0 ≤ h15.size := Nat.le_trans F12 E15.1
  have K18 := Keep.ext F13 E15
  have V19 := own_Ar_ext V10 E15
  have gn15 : n0 ≤ a15 := Nat.le_trans F12 (Nat.le_of_eq ga15.symm)
  have ne15_a1 : a15 ≠ a1 := fun q => absurd (own_Ar_lt V10) (by rw [← q, ga15]; exact Nat.lt_irrefl _)
  have V15 : own_Ar Z h15 a15 .byte [(.int (0 : Int32)), (.int (0 : Int32)), (.int (0 : Int32)), (.int (0 : Int32))] := own_Ar_new A15 (N := 4) (by decide) rfl
  refine own_go (B := (T15.setTop (mkF m 24 #[iv p0, iv p1, iv z3, iv z6, rv a1, .unset, .unset, .unset, .unset, .unset] [(.ref a15), (.ref a15)]))) (fun t k => XS.dup X15.here hx rfl (hb hby at_23) rfl rfl k) ?_
  refine own_go (B := (T15.setTop (mkF m 25 #[iv p0, iv p1, iv z3, iv z6, rv a1, .unset, .unset, .unset, .unset, .unset] [(.int (0 : Int32)), (.ref a15), (.ref a15)]))) (fun t k => own_iconst (v := (0 : Int32)) X15.here hx rfl (hb hby at_24) (by decide) k) ?_
  refine own_go (B := (T15.setTop (mkF m 26 #[iv p0, iv p1, iv z3, iv z6, rv a1, .unset, .unset, .unset, .unset, .unset] [(.int (5 : Int32)), (.int (0 : Int32)), (.ref a15), (.ref a15)]))) (fun t k => own_iconst (v := (5 : Int32)) X15.here hx rfl (hb hby at_25) (by decide) k) ?_
  obtain ⟨T20, h20, X20, e20, W20, V20, st20⟩ := own_stB X15 hx hZ e15 V15 (i := 0) (by decide) (by decide) (Nat.lt_of_lt_of_eq (by decide : 0 < 4) rfl) (by decide) (L' := [(.int (5 : Int32)), (.int (0 : Int32)), (.int (0 : Int32)), (.int (0 : Int32))]) rfl (g := (mkF m 26 #[iv p0, iv p1, iv z3, iv z6, rv a1, .unset, .unset, .unset, .unset, .unset] [(.int (5 : Int32)), (.int (0 : Int32)), (.ref a15), (.ref a15)])) rfl rfl (hb hby at_26)
  refine own_go (B := (T20.setTop (mkF m 27 #[iv p0, iv p1, iv z3, iv z6, rv a1, .unset, .unset, .unset, .unset, .unset] [(.ref a15)]))) st20 ?_
  obtain ⟨L20, X20, N20⟩ := own_abs X20 (Fr.snoc X20 N10 gn15)
  have F21 : 0 ≤ h20.size := by rw [W20.size]; exact Z16
  have F22 : n0 ≤ h20.size := by rw [W20.size]; exact Z17
  have F23 := Keep.wr K18 W20 (Or.inr (Nat.le_trans F13.1 (Nat.le_of_eq ga15.symm)))
  have F24 := own_Ar_other V19 W20 (Ne.symm ne15_a1)
  refine own_go (B := (T20.setTop (mkF m 28 #[iv p0, iv p1, iv z3, iv z6, rv a1, .unset, .unset, .unset, .unset, .unset] [(.ref a15), (.ref a15)]))) (fun t k => XS.dup X20.here hx rfl (hb hby at_27) rfl rfl k) ?_
  refine own_go (B := (T20.setTop (mkF m 29 #[iv p0, iv p1, iv z3, iv z6, rv a1, .unset, .unset, .unset, .unset, .unset] [(.int (1 : Int32)), (.ref a15), (.ref a15)]))) (fun t k => own_iconst (v := (1 : Int32)) X20.here hx rfl (hb hby at_28) (by decide) k) ?_
  refine own_go (B := (T20.setTop (mkF m 30 #[iv p0, iv p1, iv z3, iv z6, rv a1, .unset, .unset, .unset, .unset, .unset] [(.int (0 : Int32)), (.int (1 : Int32)), (.ref a15), (.ref a15)]))) (fun t k => own_iconst (v := (0 : Int32)) X20.here hx rfl (hb hby at_29) (by decide) k) ?_
  obtain ⟨T26, h26, X26, e26, W26, V26, st26⟩ := own_stB X20 hx hZ e20 V20 (i := 1) (by decide) (by decide) (Nat.lt_of_lt_of_eq (by decide : 1 < 4) rfl) (by decide) (L' := [(.int (5 : Int32)), (.int (0 : Int32)), (.int (0 : Int32)), (.int (0 : Int32))]) rfl (g := (mkF m 30 #[iv p0, iv p1, iv z3, iv z6, rv a1, .unset, .unset, .unset, .unset, .unset] [(.int (0 : Int32)), (.int (1 : Int32)), (.ref a15), (.ref a15)])) rfl rfl (hb hby at_30)
  refine own_go (B := (T26.setTop (mkF m 31 #[iv p0, iv p1, iv z3, iv z6, rv a1, .unset, .unset, .unset, .unset, .unset] [(.ref a15)]))) st26 ?_
  obtain ⟨L26, X26, N26⟩ := own_abs X26 (Fr.snoc X26 N20 gn15)
  have F27 : 0 ≤ h26.size := by rw [W26.size]; exact F21
  have F28 : n0 ≤ h26.size := by rw [W26.size]; exact F22
  have F29 := Keep.wr F23 W26 (Or.inr (Nat.le_trans F13.1 (Nat.le_of_eq ga15.symm)))
  have F30 := own_Ar_other F24 W26 (Ne.symm ne15_a1)
  refine own_go (B := (T26.setTop (mkF m 32 #[iv p0, iv p1, iv z3, iv z6, rv a1, .unset, .unset, .unset, .unset, .unset] [(.ref a15), (.ref a15)]))) (fun t k => XS.dup X26.here hx rfl (hb hby at_31) rfl rfl k) ?_
  refine own_go (B := (T26.setTop (mkF m 33 #[iv p0, iv p1, iv z3, iv z6, rv a1, .unset, .unset, .unset, .unset, .unset] [(.int (2 : Int32)), (.ref a15), (.ref a15)]))) (fun t k => own_iconst (v := (2 : Int32)) X26.here hx rfl (hb hby at_32) (by decide) k) ?_
  refine own_go (B := (T26.setTop (mkF m 34 #[iv p0, iv p1, iv z3, iv z6, rv a1, .unset, .unset, .unset, .unset, .unset] [(.int (5 : Int32)), (.int (2 : Int32)), (.ref a15), (.ref a15)]))) (fun t k => own_iconst (v := (5 : Int32)) X26.here hx rfl (hb hby at_33) (by decide) k) ?_
  obtain ⟨T32, h32, X32, e32, W32, V32, st32⟩ := own_stB X26 hx hZ e26 V26 (i := 2) (by decide) (by decide) (Nat.lt_of_lt_of_eq (by decide : 2 < 4) rfl) (by decide) (L' := [(.int (5 : Int32)), (.int (0 : Int32)), (.int (5 : Int32)), (.int (0 : Int32))]) rfl (g := (mkF m 34 #[iv p0, iv p1, iv z3, iv z6, rv a1, .unset, .unset, .unset, .unset, .unset] [(.int (5 : Int32)), (.int (2 : Int32)), (.ref a15), (.ref a15)])) rfl rfl (hb hby at_34)
  refine own_go (B := (T32.setTop (mkF m 35 #[iv p0, iv p1, iv z3, iv z6, rv a1, .unset, .unset, .unset, .unset, .unset] [(.ref a15)]))) st32 ?_
  obtain ⟨L32, X32, N32⟩ := own_abs X32 (Fr.snoc X32 N26 gn15)
  have F33 : 0 ≤ h32.size := by rw [W32.size]; exact F27
  have F34 : n0 ≤ h32.size := by rw [W32.size]; exact F28
  have F35 := Keep.wr F29 W32 (Or.inr (Nat.le_trans F13.1 (Nat.le_of_eq ga15.symm)))
  have F36 := own_Ar_other F30 W32 (Ne.symm ne15_a1)
  refine own_go (B := (T32.setTop (mkF m 36 #[iv p0, iv p1, iv z3, iv z6, rv a1, .unset, .unset, .unset, .unset, .unset] [(.ref a15), (.ref a15)]))) (fun t k => XS.dup X32.here hx rfl (hb hby at_35) rfl rfl k) ?_
  refine own_go (B := (T32.setTop (mkF m 37 #[iv p0, iv p1, iv z3, iv z6, rv a1, .unset, .unset, .unset, .unset, .unset] [(.int (3 : Int32)), (.ref a15), (.ref a15)]))) (fun t k => own_iconst (v := (3 : Int32)) X32.here hx rfl (hb hby at_36) (by decide) k) ?_
  refine own_go (B := (T32.setTop (mkF m 38 #[iv p0, iv p1, iv z3, iv z6, rv a1, .unset, .unset, .unset, .unset, .unset] [(.int (0 : Int32)), (.int (3 : Int32)), (.ref a15), (.ref a15)]))) (fun t k => own_iconst (v := (0 : Int32)) X32.here hx rfl (hb hby at_37) (by decide) k) ?_
  obtain ⟨T38, h38, X38, e38, W38, V38, st38⟩ := own_stB X32 hx hZ e32 V32 (i := 3) (by decide) (by decide) (Nat.lt_of_lt_of_eq (by decide : 3 < 4) rfl) (by decide) (L' := [(.int (5 : Int32)), (.int (0 : Int32)), (.int (5 : Int32)), (.int (0 : Int32))]) rfl (g := (mkF m 38 #[iv p0, iv p1, iv z3, iv z6, rv a1, .unset, .unset, .unset, .unset, .unset] [(.int (0 : Int32)), (.int (3 : Int32)), (.ref a15), (.ref a15)])) rfl rfl (hb hby at_38)
  refine own_go (B := (T38.setTop (mkF m 39 #[iv p0, iv p1, iv z3, iv z6, rv a1, .unset, .unset, .unset, .unset, .unset] [(.ref a15)]))) st38 ?_
  obtain ⟨L38, X38, N38⟩ := own_abs X38 (Fr.snoc X38 N32 gn15)
  have F39 : 0 ≤ h38.size := by rw [W38.size]; exact F33
  have F40 : n0 ≤ h38.size := by rw [W38.size]; exact F34
  have F41 := Keep.wr F35 W38 (Or.inr (Nat.le_trans F13.1 (Nat.le_of_eq ga15.symm)))
  have F42 := own_Ar_other F36 W38 (Ne.symm ne15_a1)
  refine own_go (B := (T38.setTop (mkF m 41 #[iv p0, iv p1, iv z3, iv z6, rv a1, rv a15, .unset, .unset, .unset, .unset] []))) (fun t k => XS.astore X38.here hx rfl (hb hby at_39) rfl rfl (l' := #[iv p0, iv p1, iv z3, iv z6, rv a1, rv a15, .unset, .unset, .unset, .unset]) rfl k) ?_
  refine own_go (B := (T38.setTop (mkF m 42 #[iv p0, iv p1, iv z3, iv z6, rv a1, rv a15, .unset, .unset, .unset, .unset] [(.int (3 : Int32))]))) (fun t k => own_iconst (v := (3 : Int32)) X38.here hx rfl (hb hby at_41) (by decide) k) ?_
  obtain ⟨T44, h44, c44, X44, e44, E44, A44, st44⟩ := newP X38 hx hZ (aty := .byte) w_0 e38 (g := (mkF m 42 #[iv p0, iv p1, iv z3, iv z6, rv a1, rv a15, .unset, .unset, .unset, .unset] [(.int (3 : Int32))])) rfl (hb hby at_42) rfl (by decide) (cap := 3) (by decide) (by decide) (own_b rfl) (own_b rfl)
  obtain ⟨a44, ga44⟩ : ∃ z, z = h38.size := ⟨_, rfl⟩
  rw [← ga44] at A44 st44
  refine own_go (B := (T44.setTop (mkF m 44 #[iv p0, iv p1, iv z3, iv z6, rv a1, rv a15, .unset, .unset, .unset, .unset] [(.ref a44)]))) st44 ?_
  have Z45 : 0 ≤ h44.size := Nat.le_trans F39 E44.1
  have Z46 : n0 ≤ h44.size := Nat.le_trans F40 E44.1
  have K47 := Keep.ext F41 E44
  have V48 := own_Ar_ext F42 E44
  have V49 := own_Ar_ext V38 E44
  have gn44 : n0 ≤ a44 := Nat.le_trans F40 (Nat.le_of_eq ga44.symm)
  have ne44_a1 : a44 ≠ a1 := fun q => absurd (own_Ar_lt F42) (by rw [← q, ga44]; exact Nat.lt_irrefl _)
  have ne44_a15 : a44 ≠ a15 := fun q => absurd (own_Ar_lt V38) (by rw [← q, ga44]; exact Nat.lt_irrefl _)
  have V44 : own_Ar Z h44 a44 .byte [(.int (0 : Int32)), (.int (0 : Int32)), (.int (0 : Int32))] := own_Ar_new A44 (N := 3) (by decide) rfl
  refine own_go (B := (T44.setTop (mkF m 45 #[iv p0, iv p1, iv z3, iv z6, rv a1, rv a15, .unset, .unset, .unset, .unset] [(.ref a44), (.ref a44)]))) (fun t k => XS.dup X44.here hx rfl (hb hby at_44) rfl rfl k) ?_
  refine own_go (B := (T44.setTop (mkF m 46 #[iv p0, iv p1, iv z3, iv z6, rv a1, rv a15, .unset, .unset, .unset, .unset] [(.int (0 : Int32)), (.ref a44), (.ref a44)]))) (fun t k => own_iconst (v := (0 : Int32)) X44.here hx rfl (hb hby at_45) (by decide) k) ?_
  refine own_go (B := (T44.setTop (mkF m 47 #[iv p0, iv p1, iv z3, iv z6, rv a1, rv a15, .unset, .unset, .unset, .unset] [(.int (5 : Int32)), (.int (0 : Int32)), (.ref a44), (.ref a44)]))) (fun t k => own_iconst (v := (5 : Int32)) X44.here hx rfl (hb hby at_46) (by decide) k) ?_
  obtain ⟨T50, h50, X50, e50, W50, V50, st50⟩ := own_stB X44 hx hZ e44 V44 (i := 0) (by decide) (by decide) (Nat.lt_of_lt_of_eq (by decide : 0 < 3) rfl) (by decide) (L' := [(.int (5 : Int32)), (.int (0 : Int32)), (.int (0 : Int32))]) rfl (g := (mkF m 47 #[iv p0, iv p1, iv z3, iv z6, rv a1, rv a15, .unset, .unset, .unset, .unset] [(.int (5 : Int32)), (.int (0 : Int32)), (.ref a44), (.ref a44)])) rfl rfl (hb hby at_47)
  refine own_go (B := (T50.setTop (mkF m 48 #[iv p0, iv p1, iv z3, iv z6, rv a1, rv a15, .unset, .unset, .unset, .unset] [(.ref a44)]))) st50 ?_
  obtain ⟨L50, X50, N50⟩ := own_abs X50 (Fr.snoc X50 N38 gn44)
  have F51 : 0 ≤ h50.size := by rw [W50.size]; exact Z45
  have F52 : n0 ≤ h50.size := by rw [W50.size]; exact Z46
  have F53 := Keep.wr K47 W50 (Or.inr (Nat.le_trans F41.1 (Nat.le_of_eq ga44.symm)))
  have F54 := own_Ar_other V48 W50 (Ne.symm ne44_a1)
  have F55 := own_Ar_other V49 W50 (Ne.symm ne44_a15)
  refine own_go (B := (T50.setTop (mkF m 49 #[iv p0, iv p1, iv z3, iv z6, rv a1, rv a15, .unset, .unset, .unset, .unset] [(.ref a44), (.ref a44)]))) (fun t k => XS.dup X50.here hx rfl (hb hby at_48) rfl rfl k) ?_
  refine own_go (B := (T50.setTop (mkF m 50 #[iv p0, iv p1, iv z3, iv z6, rv a1, rv a15, .unset, .unset, .unset, .unset] [(.int (1 : Int32)), (.ref a44), (.ref a44)]))) (fun t k => own_iconst (v := (1 : Int32)) X50.here hx rfl (hb hby at_49) (by decide) k) ?_
  refine own_go (B := (T50.setTop (mkF m 51 #[iv p0, iv p1, iv z3, iv z6, rv a1, rv a15, .unset, .unset, .unset, .unset] [(.int (0 : Int32)), (.int (1 : Int32)), (.ref a44), (.ref a44)]))) (fun t k => own_iconst (v := (0 : Int32)) X50.here hx rfl (hb hby at_50) (by decide) k) ?_
  obtain ⟨T57, h57, X57, e57, W57, V57, st57⟩ := own_stB X50 hx hZ e50 V50 (i := 1) (by decide) (by decide) (Nat.lt_of_lt_of_eq (by decide : 1 < 3) rfl) (by decide) (L' := [(.int (5 : Int32)), (.int (0 : Int32)), (.int (0 : Int32))]) rfl (g := (mkF m 51 #[iv p0, iv p1, iv z3, iv z6, rv a1, rv a15, .unset, .unset, .unset, .unset] [(.int (0 : Int32)), (.int (1 : Int32)), (.ref a44), (.ref a44)])) rfl rfl (hb hby at_51)
  refine own_go (B := (T57.setTop (mkF m 52 #[iv p0, iv p1, iv z3, iv z6, rv a1, rv a15, .unset, .unset, .unset, .unset] [(.ref a44)]))) st57 ?_
  obtain ⟨L57, X57, N57⟩ := own_abs X57 (Fr.snoc X57 N50 gn44)
  have F58 : 0 ≤ h57.size := by rw [W57.size]; exact F51
  have F59 : n0 ≤ h57.size := by rw [W57.size]; exact F52
  have F60 := Keep.wr F53 W57 (Or.inr (Nat.le_trans F41.1 (Nat.le_of_eq ga44.symm)))
  have F61 := own_Ar_other F54 W57 (Ne.symm ne44_a1)
  have F62 := own_Ar_other F55 W57 (Ne.symm ne44_a15)
  refine own_go (B := (T57.setTop (mkF m 53 #[iv p0, iv p1, iv z3, iv z6, rv a1, rv a15, .unset, .unset, .unset, .unset] [(.ref a44), (.ref a44)]))) (fun t k => XS.dup X57.here hx rfl (hb hby at_52) rfl rfl k) ?_
  refine own_go (B := (T57.setTop (mkF m 54 #[iv p0, iv p1, iv z3, iv z6, rv a1, rv a15, .unset, .unset, .unset, .unset] [(.int (2 : Int32)), (.ref a44), (.ref a44)]))) (fun t k => own_iconst (v := (2 : Int32)) X57.here hx rfl (hb hby at_53) (by decide) k) ?_
  refine own_go (B := (T57.setTop (mkF m 55 #[iv p0, iv p1, iv z3, iv z6, rv a1, rv a15, .unset, .unset, .unset, .unset] [(.int z6), (.int (2 : Int32)), (.ref a44), (.ref a44)]))) (fun t k => XS.iloadN X57.here hx rfl (hb hby at_54) rfl k) ?_
  obtain ⟨T64, h64, X64, e64, W64, V64, st64⟩ := own_stB X57 hx hZ e57 V57 (i := 2) (by decide) (by decide) (Nat.lt_of_lt_of_eq (by decide : 2 < 3) rfl) hnz (L' := [(.int (5 : Int32)), (.int (0 : Int32)), (.int z6)]) rfl (g := (mkF m 55 #[iv p0, iv p1, iv z3, iv z6, rv a1, rv a15, .unset, .unset, .unset, .unset] [(.int z6), (.int (2 : Int32)), (.ref a44), (.ref a44)])) rfl rfl (hb hby at_55)
  refine own_go (B := (T64.setTop (mkF m 56 #[iv p0, iv p1, iv z3, iv z6, rv a1, rv a15, .unset, .unset, .unset, .unset] [(.ref a44)]))) st64 ?_
  obtain ⟨L64, X64, N64⟩ := own_abs X64 (Fr.snoc X64 N57 gn44)
  have F65 : 0 ≤ h64.size := by rw [W64.size]; exact F58
  have F66 : n0 ≤ h64.size := by rw [W64.size]; exact F59
  have F67 := Keep.wr F60 W64 (Or.inr (Nat.le_trans F41.1 (Nat.le_of_eq ga44.symm)))
  have F68 := own_Ar_other F61 W64 (Ne.symm ne44_a1)
  have F69 := own_Ar_other F62 W64 (Ne.symm ne44_a15)
  refine own_go (B := (T64.setTop (mkF m 58 #[iv p0, iv p1, iv z3, iv z6, rv a1, rv a15, rv a44, .unset, .unset, .unset] []))) (fun t k => XS.astore X64.here hx rfl (hb hby at_56) rfl rfl (l' := #[iv p0, iv p1, iv z3, iv z6, rv a1, rv a15, rv a44, .unset, .unset, .unset]) rfl k) ?_
  refine own_go (B := (T64.setTop (mkF m 59 #[iv p0, iv p1, iv z3, iv z6, rv a1, rv a15, rv a44, .unset, .unset, .unset] [(.int (5 : Int32))]))) (fun t k => own_iconst (v := (5 : Int32)) X64.here hx rfl (hb hby at_58) (by decide) k) ?_
  obtain ⟨T71, h71, c71, X71, e71, E71, A71, st71⟩ := newP X64 hx hZ (aty := .byte) w_0 e64 (g := (mkF m 59 #[iv p0, iv p1, iv z3, iv z6, rv a1, rv a15, rv a44, .unset, .unset, .unset] [(.int (5 : Int32))])) rfl (hb hby at_59) rfl (by decide) (cap := 5) (by decide) (by decide) (own_b rfl) (own_b rfl)
  obtain ⟨a71, ga71⟩ : ∃ z, z = h64.size := ⟨_, rfl⟩
  rw [← ga71] at A71 st71
  refine own_go (B := (T71.setTop (mkF m 61 #[iv p0, iv p1, iv z3, iv z6, rv a1, rv a15, rv a44, .unset, .unset, .unset] [(.ref a71)]))) st71 ?_
  have Z72 : 0 ≤ h71.size := Nat.le_trans F65 E71.1
  have Z73 : n0 ≤ h71.size := Nat.le_trans F66 E71.1
  have K74 := Keep.ext F67 E71
  have V75 := own_Ar_ext F68 E71
  have V76 := own_Ar_ext F69 E71
  have V77 := own_Ar_ext V64 E71
  have gn71 : n0 ≤ a71 := Nat.le_trans F66 (Nat.le_of_eq ga71.symm)
  have ne71_a1 : a71 ≠ a1 := fun q => absurd (own_Ar_lt F68) (by rw [← q, ga71]; exact Nat.lt_irrefl _)
  have ne71_a15 : a71 ≠ a15 := fun q => absurd (own_Ar_lt F69) (by rw [← q, ga71]; exact Nat.lt_irrefl _)
  have ne71_a44 : a71 ≠ a44 := fun q => absurd (own_Ar_lt V64) (by rw [← q, ga71]; exact Nat.lt_irrefl _)
  have V71 : own_Ar Z h71 a71 .byte [(.int (0 : Int32)), (.int (0 : Int32)), (.int (0 : Int32)), (.int (0 : Int32)), (.int (0 : Int32))] := own_Ar_new A71 (N := 5) (by decide) rfl
  refine own_go (B := (T71.setTop (mkF m 62 #[iv p0, iv p1, iv z3, iv z6, rv a1, rv a15, rv a44, .unset, .unset, .unset] [(.ref a71), (.ref a71)]))) (fun t k => XS.dup X71.here hx rfl (hb hby at_61) rfl rfl k) ?_
  refine own_go (B := (T71.setTop (mkF m 63 #[iv p0, iv p1, iv z3, iv z6, rv a1, rv a15, rv a44, .unset, .unset, .unset] [(.int (0 : Int32)), (.ref a71), (.ref a71)]))) (fun t k => own_iconst (v := (0 : Int32)) X71.here hx rfl (hb hby at_62) (by decide) k) ?_
  refine own_go (B := (T71.setTop (mkF m 64 #[iv p0, iv p1, iv z3, iv z6, rv a1, rv a15, rv a44, .unset, .unset, .unset] [(.int (5 : Int32)), (.int (0 : Int32)), (.ref a71), (.ref a71)]))) (fun t k => own_iconst (v := (5 : Int32)) X71.here hx rfl (hb hby at_63) (by decide) k) ?_
  obtain ⟨T78, h78, X78, e78, W78, V78, st78⟩ := own_stB X71 hx hZ e71 V71 (i := 0) (by decide) (by decide) (Nat.lt_of_lt_of_eq (by decide : 0 < 5) rfl) (by decide) (L' := [(.int (5 : Int32)), (.int (0 : Int32)), (.int (0 : Int32)), (.int (0 : Int32)), (.int (0 : Int32))]) rfl (g := (mkF m 64 #[iv p0, iv p1, iv z3, iv z6, rv a1, rv a15, rv a44, .unset, .unset, .unset] [(.int (5 : Int32)), (.int (0 : Int32)), (.ref a71), (.ref a71)])) rfl rfl (hb hby at_64)
  refine own_go (B := (T78.setTop (mkF m 65 #[iv p0, iv p1, iv z3, iv z6, rv a1, rv a15, rv a44, .unset, .unset, .unset] [(.ref a71)]))) st78 ?_
  obtain ⟨L78, X78, N78⟩ := own_abs X78 (Fr.snoc X78 N64 gn71)
  have F79 : 0 ≤ h78.size := by rw [W78.size]; exact Z72
  have F80 : n0 ≤ h78.size := by rw [W78.size]; exact Z73
  have F81 := Keep.wr K74 W78 (Or.inr (Nat.le_trans F67.1 (Nat.le_of_eq ga71.symm)))
  have F82 := own_Ar_other V75 W78 (Ne.symm ne71_a1)
  have F83 := own_Ar_other V76 W78 (Ne.symm ne71_a15)
  have F84 := own_Ar_other V77 W78 (Ne.symm ne71_a44)
  refine own_go (B := (T78.setTop (mkF m 66 #[iv p0, iv p1, iv z3, iv z6, rv a1, rv a15, rv a44, .unset, .unset, .unset] [(.ref a71), (.ref a71)]))) (fun t k => XS.dup X78.here hx rfl (hb hby at_65) rfl rfl k) ?_
  refine own_go (B := (T78.setTop (mkF m 67 #[iv p0, iv p1, iv z3, iv z6, rv a1, rv a15, rv a44, .unset, .unset, .unset] [(.int (1 : Int32)), (.ref a71), (.ref a71)]))) (fun t k => own_iconst (v := (1 : Int32)) X78.here hx rfl (hb hby at_66) (by decide) k) ?_
  refine own_go (B := (T78.setTop (mkF m 68 #[iv p0, iv p1, iv z3, iv z6, rv a1, rv a15, rv a44, .unset, .unset, .unset] [(.int (0 : Int32)), (.int (1 : Int32)), (.ref a71), (.ref a71)]))) (fun t k => own_iconst (v := (0 : Int32)) X78.here hx rfl (hb hby at_67) (by decide) k) ?_
  obtain ⟨T86, h86, X86, e86, W86, V86, st86⟩ := own_stB X78 hx hZ e78 V78 (i := 1) (by decide) (by decide) (Nat.lt_of_lt_of_eq (by decide : 1 < 5) rfl) (by decide) (L' := [(.int (5 : Int32)), (.int (0 : Int32)), (.int (0 : Int32)), (.int (0 : Int32)), (.int (0 : Int32))]) rfl (g := (mkF m 68 #[iv p0, iv p1, iv z3, iv z6, rv a1, rv a15, rv a44, .unset, .unset, .unset] [(.int (0 : Int32)), (.int (1 : Int32)), (.ref a71), (.ref a71)])) rfl rfl (hb hby at_68)
  refine own_go (B := (T86.setTop (mkF m 69 #[iv p0, iv p1, iv z3, iv z6, rv a1, rv a15, rv a44, .unset, .unset, .unset] [(.ref a71)]))) st86 ?_
  obtain ⟨L86, X86, N86⟩ := own_abs X86 (Fr.snoc X86 N78 gn71)
  have F87 : 0 ≤ h86.size := by rw [W86.size]; exact F79
  have F88 : n0 ≤ h86.size := by rw [W86.size]; exact F80
  have F89 := Keep.wr F81 W86 (Or.inr (Nat.le_trans F67.1 (Nat.le_of_eq ga71.symm)))
  have F90 := own_Ar_other F82 W86 (Ne.symm ne71_a1)
  have F91 := own_Ar_other F83 W86 (Ne.symm ne71_a15)
  have F92 := own_Ar_other F84 W86 (Ne.symm ne71_a44)
  refine own_go (B := (T86.setTop (mkF m 70 #[iv p0, iv p1, iv z3, iv z6, rv a1, rv a15, rv a44, .unset, .unset, .unset] [(.ref a71), (.ref a71)]))) (fun t k => XS.dup X86.here hx rfl (hb hby at_69) rfl rfl k) ?_
  refine own_go (B := (T86.setTop (mkF m 71 #[iv p0, iv p1, iv z3, iv z6, rv a1, rv a15, rv a44, .unset, .unset, .unset] [(.int (2 : Int32)), (.ref a71), (.ref a71)]))) (fun t k => own_iconst (v := (2 : Int32)) X86.here hx rfl (hb hby at_70) (by decide) k) ?_
  refine own_go (B := (T86.setTop (mkF m 73 #[iv p0, iv p1, iv z3, iv z6, rv a1, rv a15, rv a44, .unset, .unset, .unset] [(.int (6 : Int32)), (.int (2 : Int32)), (.ref a71), (.ref a71)]))) (fun t k => own_bipush (v := (6 : Int32)) X86.here hx rfl (hb hby at_71) (by decide) k) ?_
  obtain ⟨T94, h94, X94, e94, W94, V94, st94⟩ := own_stB X86 hx hZ e86 V86 (i := 2) (by decide) (by decide) (Nat.lt_of_lt_of_eq (by decide : 2 < 5) rfl) (by decide) (L' := [(.int (5 : Int32)), (.int (0 : Int32)), (.int (6 : Int32)), (.int (0 : Int32)), (.int (0 : Int32))]) rfl (g := (mkF m 73 #[iv p0, iv p1, iv z3, iv z6, rv a1, rv a15, rv a44, .unset, .unset, .unset] [(.int (6 : Int32)), (.int (2 : Int32)), (.ref a71), (.ref a71)])) rfl rfl (hb hby at_73)
  refine own_go (B := (T94.setTop (mkF m 74 #[iv p0, iv p1, iv z3, iv z6, rv a1, rv a15, rv a44, .unset, .unset, .unset] [(.ref a71)]))) st94 ?_
  obtain ⟨L94, X94, N94⟩ := own_abs X94 (Fr.snoc X94 N86 gn71)
  have F95 : 0 ≤ h94.size := by rw [W94.size]; exact F87
  have F96 : n0 ≤ h94.size := by rw [W94.size]; exact F88
  have F97 := Keep.wr F89 W94 (Or.inr (Nat.le_trans F67.1 (Nat.le_of_eq ga71.symm)))
  have F98 := own_Ar_other F90 W94 (Ne.symm ne71_a1)
  have F99 := own_Ar_other F91 W94 (Ne.symm ne71_a15)
  have F100 := own_Ar_other F92 W94 (Ne.symm ne71_a44)
  refine own_go (B := (T94.setTop (mkF m 75 #[iv p0, iv p1, iv z3, iv z6, rv a1, rv a15, rv a44, .unset, .unset, .unset] [(.ref a71), (.ref a71)]))) (fun t k => XS.dup X94.here hx rfl (hb hby at_74) rfl rfl k) ?_
  refine own_go (B := (T94.setTop (mkF m 76 #[iv p0, iv p1, iv z3, iv z6, rv a1, rv a15, rv a44, .unset, .unset, .unset] [(.int (3 : Int32)), (.ref a71), (.ref a71)]))) (fun t k => own_iconst (v := (3 : Int32)) X94.here hx rfl (hb hby at_75) (by decide) k) ?_
  refine own_go (B := (T94.setTop (mkF m 77 #[iv p0, iv p1, iv z3, iv z6, rv a1, rv a15, rv a44, .unset, .unset, .unset] [(.int (1 : Int32)), (.int (3 : Int32)), (.ref a71), (.ref a71)]))) (fun t k => own_iconst (v := (1 : Int32)) X94.here hx rfl (hb hby at_76) (by decide) k) ?_
  obtain ⟨T102, h102, X102, e102, W102, V102, st102⟩ := own_stB X94 hx hZ e94 V94 (i := 3) (by decide) (by decide) (Nat.lt_of_lt_of_eq (by decide : 3 < 5) rfl) (by decide) (L' := [(.int (5 : Int32)), (.int (0 : Int32)), (.int (6 : Int32)), (.int (1 : Int32)), (.int (0 : Int32))]) rfl (g := (mkF m 77 #[iv p0, iv p1, iv z3, iv z6, rv a1, rv a15, rv a44, .unset, .unset, .unset] [(.int (1 : Int32)), (.int (3 : Int32)), (.ref a71), (.ref a71)])) rfl rfl (hb hby at_77)
  refine own_go (B := (T102.setTop (mkF m 78 #[iv p0, iv p1, iv z3, iv z6, rv a1, rv a15, rv a44, .unset, .unset, .unset] [(.ref a71)]))) st102 ?_
  obtain ⟨L102, X102, N102⟩ := own_abs X102 (Fr.snoc X102 N94 gn71)
  have F103 : 0 ≤ h102.size := by rw [W102.size]; exact F95
  have F104 : n0 ≤ h102.size := by rw [W102.size]; exact F96
  have F105 := Keep.wr F97 W102 (Or.inr (Nat.le_trans F67.1 (Nat.le_of_eq ga71.symm)))
  have F106 := own_Ar_other F98 W102 (Ne.symm ne71_a1)
  have F107 := own_Ar_other F99 W102 (Ne.symm ne71_a15)
  have F108 := own_Ar_other F100 W102 (Ne.symm ne71_a44)
  refine own_go (B := (T102.setTop (mkF m 79 #[iv p0, iv p1, iv z3, iv z6, rv a1, rv a15, rv a44, .unset, .unset, .unset] [(.ref a71), (.ref a71)]))) (fun t k => XS.dup X102.here hx rfl (hb hby at_78) rfl rfl k) ?_
  refine own_go (B := (T102.setTop (mkF m 80 #[iv p0, iv p1, iv z3, iv z6, rv a1, rv a15, rv a44, .unset, .unset, .unset] [(.int (4 : Int32)), (.ref a71), (.ref a71)]))) (fun t k => own_iconst (v := (4 : Int32)) X102.here hx rfl (hb hby at_79) (by decide) k) ?_
  refine own_go (B := (T102.setTop (mkF m 81 #[iv p0, iv p1, iv z3, iv z6, rv a1, rv a15, rv a44, .unset, .unset, .unset] [(.int z6), (.int (4 : Int32)), (.ref a71), (.ref a71)]))) (fun t k => XS.iloadN X102.here hx rfl (hb hby at_80) rfl k) ?_
  obtain ⟨T110, h110, X110, e110, W110, V110, st110⟩ := own_stB X102 hx hZ e102 V102 (i := 4) (by decide) (by decide) (Nat.lt_of_lt_of_eq (by decide : 4 < 5) rfl) hnz (L' := [(.int (5 : Int32)), (.int (0 : Int32)), (.int (6 : Int32)), (.int (1 : Int32)), (.int z6)]) rfl (g := (mkF m 81 #[iv p0, iv p1, iv z3, iv z6, rv a1, rv a15, rv a44, .unset, .unset, .unset] [(.int z6), (.int (4 : Int32)), (.ref a71), (.ref a71)])) rfl rfl (hb hby at_81)
  refine own_go (B := (T110.setTop (mkF m 82 #[iv p0, iv p1, iv z3, iv z6, rv a1, rv a15, rv a44, .unset, .unset, .unset] [(.ref a71)]))) st110 ?_
  obtain ⟨L110, X110, N110⟩ := own_abs X110 (Fr.snoc X110 N102 gn71)
  have F111 : 0 ≤ h110.size := by rw [W110.size]; exact F103
  have F112 : n0 ≤ h110.size := by rw [W110.size]; exact F104
  have F113 := Keep.wr F105 W110 (Or.inr (Nat.le_trans F67.1 (Nat.le_of_eq ga71.symm)))
  have F114 := own_Ar_other F106 W110 (Ne.symm ne71_a1)
  have F115 := own_Ar_other F107 W110 (Ne.symm ne71_a15)
  have F116 := own_Ar_other F108 W110 (Ne.symm ne71_a44)
  refine own_go (B := (T110.setTop (mkF m 84 #[iv p0, iv p1, iv z3, iv z6, rv a1, rv a15, rv a44, rv a71, .unset, .unset] []))) (fun t k => XS.astore X110.here hx rfl (hb hby at_82) rfl rfl (l' := #[iv p0, iv p1, iv z3, iv z6, rv a1, rv a15, rv a44, rv a71, .unset, .unset]) rfl k) ?_
  refine own_go (B := (T110.setTop (mkF m 85 #[iv p0, iv p1, iv z3, iv z6, rv a1, rv a15, rv a44, rv a71, .unset, .unset] [(.int z3)]))) (fun t k => XS.iloadN X110.here hx rfl (hb hby at_84) rfl k) ?_
  refine own_if X110 hx (hb hby at_85) (pc' := 110) (pn := 88) (by decide) (by decide) rfl (fun (hc85 : ¬ z3 = (0 : Int32)) => ?_) (fun (hc85 : z3 = (0 : Int32)) => ?_)
  · refine own_go (B := (T110.setTop (mkF m 111 #[iv p0, iv p1, iv z3, iv z6, rv a1, rv a15, rv a44, rv a71, .unset, .unset] [(.int z3)]))) (fun t k => XS.iloadN X110.here hx rfl (hb hby at_110) rfl k) ?_
    refine own_go (B := (T110.setTop (mkF m 112 #[iv p0, iv p1, iv z3, iv z6, rv a1, rv a15, rv a44, rv a71, .unset, .unset] [(.int (1 : Int32)), (.int z3)]))) (fun t k => own_iconst (v := (1 : Int32)) X110.here hx rfl (hb hby at_111) (by decide) k) ?_
    refine own_icmp X110 hx (hb hby at_112) (pc' := 152) (pn := 115) (by decide) (by decide) rfl (fun (hc112 : ¬ z3 = (1 : Int32)) => ?_) (fun (hc112 : z3 = (1 : Int32)) => ?_)
    · refine own_go (B := (T110.setTop (mkF m 153 #[iv p0, iv p1, iv z3, iv z6, rv a1, rv a15, rv a44, rv a71, .unset, .unset] [(.int z3)]))) (fun t k => XS.iloadN X110.here hx rfl (hb hby at_152) rfl k) ?_
      refine own_go (B := (T110.setTop (mkF m 154 #[iv p0, iv p1, iv z3, iv z6, rv a1, rv a15, rv a44, rv a71, .unset, .unset] [(.int (2 : Int32)), (.int z3)]))) (fun t k => own_iconst (v := (2 : Int32)) X110.here hx rfl (hb hby at_153) (by decide) k) ?_
      refine own_icmp X110 hx (hb hby at_154) (pc' := 187) (pn := 157) (by decide) (by decide) rfl (fun (hc154 : ¬ z3 = (2 : Int32)) => ?_) (fun (hc154 : z3 = (2 : Int32)) => ?_)
      · obtain ⟨T118, h118, X118, e118, E118, A118, D118, U118, st118⟩ := newO X110 hx hZ hown w_1 w_2 w_3 e110 (g := (mkF m 187 #[iv p0, iv p1, iv z3, iv z6, rv a1, rv a15, rv a44, rv a71, .unset, .unset] [])) rfl (hb hby at_187) (own_b rfl) (own_b rfl)
        obtain ⟨a118, ga118⟩ : ∃ z, z = h110.size := ⟨_, rfl⟩
        rw [← ga118] at A118 D118 U118 st118
        refine own_go (B := (T118.setTop (mkF m 190 #[iv p0, iv p1, iv z3, iv z6, rv a1, rv a15, rv a44, rv a71, .unset, .unset] [(.ref a118)]))) st118 ?_
        have Z119 : 0 ≤ h118.size := Nat.le_trans F111 E118.1
        have Z120 : n0 ≤ h118.size := Nat.le_trans F112 E118.1
        have K121 := Keep.ext F113 E118
        have V122 := own_Ar_ext F114 E118
        have V123 := own_Ar_ext F115 E118
        have V124 := own_Ar_ext F116 E118
        have V125 := own_Ar_ext V110 E118
        have gn118 : n0 ≤ a118 := Nat.le_trans F112 (Nat.le_of_eq ga118.symm)
        have ne118_a1 : a118 ≠ a1 := fun q => absurd (own_Ar_lt F114) (by rw [← q, ga118]; exact Nat.lt_irrefl _)
        have ne118_a15 : a118 ≠ a15 := fun q => absurd (own_Ar_lt F115) (by rw [← q, ga118]; exact Nat.lt_irrefl _)
        have ne118_a44 : a118 ≠ a44 := fun q => absurd (own_Ar_lt F116) (by rw [← q, ga118]; exact Nat.lt_irrefl _)
        have ne118_a71 : a118 ≠ a71 := fun q => absurd (own_Ar_lt V110) (by rw [← q, ga118]; exact Nat.lt_irrefl _)
        have F126 : Fld Z h118 a118 "com/example/honeybee/honeybee/device/DerReader" "bytes" "[B" .null := D118 (Or.inr w_14) (ty := (.array .byte)) (by decide)
        have F127 : Fld Z h118 a118 "com/example/honeybee/honeybee/device/DerReader" "position" "I" (.int (0 : Int32)) := D118 (Or.inl w_16) (ty := .int) (by decide)
        have F128 : Fld Z h118 a118 "com/example/honeybee/honeybee/device/DerReader" "end" "I" (.int (0 : Int32)) := D118 (Or.inr w_18) (ty := .int) (by decide)
        refine own_go (B := (T118.setTop (mkF m 191 #[iv p0, iv p1, iv z3, iv z6, rv a1, rv a15, rv a44, rv a71, .unset, .unset] [(.ref a118), (.ref a118)]))) (fun t k => XS.dup X118.here hx rfl (hb hby at_190) rfl rfl k) ?_
        refine own_go (B := (T118.setTop (mkF m 193 #[iv p0, iv p1, iv z3, iv z6, rv a1, rv a15, rv a44, rv a71, .unset, .unset] [(.ref a71), (.ref a118), (.ref a118)]))) (fun t k => XS.aload X118.here hx rfl (hb hby at_191) rfl rfl k) ?_
        obtain ⟨_, _, ⟨T129, L129, k129, n129⟩, -, X129, ⟨Lc129, hQ129, l129, y129, z129⟩, st129⟩ := X118.specialBack hx (y := own_y7) rfl hown (mvT hZ w_4) (mvT hZ w_5) (mvT hZ w_6) (by decide) (backOf (W := 1) (own_ct1 l Z a0 hw [] a118 a71 (5 : Int32) [(.int (5 : Int32)), (.int (0 : Int32)), (.int (6 : Int32)), (.int (1 : Int32)), (.int z6)] h118 n0 Z120 A118 gn118 F126 F127 F128 V125 (own_lenL (n := 5) rfl (by decide))) hZ w_6 w_3 (by decide) (by decide)) (g := (mkF m 193 #[iv p0, iv p1, iv z3, iv z6, rv a1, rv a15, rv a44, rv a71, .unset, .unset] [(.ref a71), (.ref a118), (.ref a118)])) rfl (by rw [hml]; rfl) (Steps.refl _) (a := a118) (argsL := [(.ref a71)]) (rest := [(.ref a118)]) (lenOf own_pd6 rfl) rfl (by show 2 * 0 + _ ≤ _; exact own_b rfl) (hb hby at_193) (fun _ _ => ⟨rfl, e118, (own_b rfl : 5 + 0 ≤ _), (own_b rfl : 17 + 0 ≤ _)⟩)
        dsimp only [Pt.U, Pt.locs, Pt.cells, Pt.slots] at X129 l129 y129 z129 st129 hQ129
        obtain ⟨rfl, Nq129, K129, Ex129, gb129, gp129, ge129⟩ := hQ129
        obtain ⟨L129, X129, N129⟩ := own_absC (K := 5) (K' := 17) X129 l129 y129 z129 N110 Nq129
        have F130 : 0 ≤ T129.heap.size := Nat.le_trans Z119 K129.1
        have F131 : n0 ≤ T129.heap.size := Nat.le_trans Z120 K129.1
        have F132 := Keep.trans K121 K129 (allS (Or.inr (Nat.le_trans F113.1 (Nat.le_of_eq ga118.symm))) all0)
        have F133 := own_Ar_keep V122 K129 (ninS (Ne.symm ne118_a1) nin0)
        have F134 := own_Ar_keep V123 K129 (ninS (Ne.symm ne118_a15) nin0)
        have F135 := own_Ar_keep V124 K129 (ninS (Ne.symm ne118_a44) nin0)
        have F136 := own_Ar_keep V125 K129 (ninS (Ne.symm ne118_a71) nin0)
        have F137 := Exa.keep A118 K129
        refine own_tr (B := (T129.setTop (mkF m 196 #[iv p0, iv p1, iv z3, iv z6, rv a1, rv a15, rv a44, rv a71, .unset, .unset] [(.ref a118)]))) st129 ?_
        refine own_go (B := (T129.setTop (mkF m 198 #[iv p0, iv p1, iv z3, iv z6, rv a1, rv a15, rv a44, rv a71, rv a118, .unset] []))) (fun t k => XS.astore X129.here hx rfl (hb hby at_196) rfl rfl (l' := #[iv p0, iv p1, iv z3, iv z6, rv a1, rv a15, rv a44, rv a71, rv a118, .unset]) rfl k) ?_
        refine own_go (B := (T129.setTop (mkF m 200 #[iv p0, iv p1, iv z3, iv z6, rv a1, rv a15, rv a44, rv a71, rv a118, .unset] [(.ref a118)]))) (fun t k => XS.aload X129.here hx rfl (hb hby at_198) rfl rfl k) ?_
        obtain ⟨cq141, kq141, qa141, qb141, qc141⟩ := isOf hZ rfl Ex129
        obtain ⟨_, _, ⟨T141, L141, k141, n141⟩, -, X141, hs141, hg141, ⟨Lc141, hQ141, l141, y141, z141⟩, st141⟩ := X129.virtualBackS hx (y := own_y8) (z := own_y8) hown (mvT hZ w_19) (mvT hZ w_20) (notFace_of_selects (args := #[]) (mvT hZ w_22)) (mvT hZ w_22) (mvT hZ w_21) (by decide) (backOfS (W := 0) (own_nv l Z a0 hw [] a118 a71 (0 : Int32) (5 : Int32) (2 : Int32) (5 : Int32) (0 : Int32) [(.int (5 : Int32)), (.int (0 : Int32)), (.int (6 : Int32)), (.int (1 : Int32)), (.int z6)] T129.heap n0 F131 Ex129 gn118 gb129 gp129 ge129 F136 (by decide) (by decide) (by decide) rfl (by decide) rfl (by decide) (by decide) (by decide) (by decide)) hZ w_23 w_3 (by decide) (by decide)) qa141 qc141 (g := (mkF m 200 #[iv p0, iv p1, iv z3, iv z6, rv a1, rv a15, rv a44, rv a71, rv a118, .unset] [(.ref a118)])) rfl (by rw [hml]; rfl) (Steps.refl _) (argsL := []) (rest := []) (lenOf own_pd7 rfl) rfl (by show 2 * 0 + _ ≤ _; exact own_b rfl) (hb hby at_200) (fun _ _ => ⟨rfl, rfl, (own_b rfl : 5 + 2 ≤ _), (own_b rfl : 17 + 20 ≤ _)⟩)
        dsimp only [Pt.U, Pt.locs, Pt.cells, Pt.slots] at X141 l141 y141 z141 st141 hQ141 hs141 hg141
        obtain ⟨rfl, Nq141, K141, Ex141, gb141, gp141, ge141⟩ := hQ141
        obtain ⟨L141, X141, N141⟩ := own_absC (K := 7) (K' := 37) X141 l141 y141 z141 N129 Nq141
        have X141 : Stand p l e room_1 (s.setVm T141.vm) m #[(.int p0), (.int p1)] below meth c T141 L141 7 37 := X141
        have hS141 := foldS hS0 (T := T129) F130 hs141 hg141
        have hZ141 : Z.Warmed39 (s.setVm T141.vm).vm := State.Warmed39.trans (t := s.setVm s.vm) hZ hs141.1
        have ho141 : (s.setVm T141.vm).vm.findClass "com/example/honeybee/honeybee/device/DerReaderNullValuePinLaw" = some m.cls := by rw [show (s.setVm T141.vm).vm = T141.vm from rfl, hs141.1.alike.findClass]; exact hown
        have F142 : n0 ≤ T141.heap.size := Nat.le_trans F131 K141.1
        have F143 := Keep.trans F132 K141 (allS (Or.inr (Nat.le_trans F113.1 (Nat.le_of_eq ga118.symm))) all0)
        have F144 := own_Ar_keep F133 K141 (ninS (Ne.symm ne118_a1) nin0)
        have F145 := own_Ar_keep F134 K141 (ninS (Ne.symm ne118_a15) nin0)
        have F146 := own_Ar_keep F135 K141 (ninS (Ne.symm ne118_a44) nin0)
        have F147 := own_Ar_keep F136 K141 (ninS (Ne.symm ne118_a71) nin0)
        have F148 := Exa.keep Ex129 K141
        have hk141 : T141.heap.size ≤ T141.heap.size := Nat.le_refl _
        refine own_tr (B := (T141.setTop (mkF m 203 #[iv p0, iv p1, iv z3, iv z6, rv a1, rv a15, rv a44, rv a71, rv a118, .unset] []))) st141 ?_
        refine own_go (B := (T141.setTop (mkF m 205 #[iv p0, iv p1, iv z3, iv z6, rv a1, rv a15, rv a44, rv a71, rv a118, .unset] [(.ref a118)]))) (fun t k => XS.aload X141.here hx rfl (hb hby at_203) rfl rfl k) ?_
        obtain ⟨cq152, kq152, qa152, qb152, qc152⟩ := isOf hZ141 rfl Ex141
        obtain ⟨_, _, ⟨T152, L152, k152, n152⟩, -, X152, hs152, hg152, ⟨Lc152, hQ152, l152, y152, z152⟩, st152⟩ := X141.virtualBackS hx (y := own_y9) (z := own_y9) ho141 (mvT hZ141 w_40) (mvT hZ141 w_41) (notFace_of_selects (args := #[]) (mvT hZ141 w_43)) (mvT hZ141 w_43) (mvT hZ141 w_42) (by decide) (backOfS (W := 0) (own_oi l Z a0 hw [] a118 a71 z6 T141.heap n0 F142 Ex141 gn118 gb141 gp141 ge141 F147 hfz) hZ141 w_44 w_3 (by decide) (by decide)) qa152 qc152 (g := (mkF m 205 #[iv p0, iv p1, iv z3, iv z6, rv a1, rv a15, rv a44, rv a71, rv a118, .unset] [(.ref a118)])) rfl (by rw [hml]; rfl) (Steps.refl _) (argsL := []) (rest := []) (lenOf own_pd8 rfl) rfl (by show 2 * 0 + _ ≤ _; exact own_b rfl) (hb hby at_205) (fun _ _ => ⟨rfl, rfl, (own_b rfl : 7 + 3 ≤ _), (own_b rfl : 37 + 73 ≤ _)⟩)
        dsimp only [Pt.U, Pt.locs, Pt.cells, Pt.slots] at X152 l152 y152 z152 st152 hQ152 hs152 hg152
        obtain ⟨b152, rfl, Nq152, Ex152, gp152, ge152, gv152⟩ := hQ152
        obtain ⟨L152, X152, N152⟩ := own_absC (K := 10) (K' := 110) X152 l152 y152 z152 N141 Nq152
        have X152 : Stand p l e room_1 (s.setVm T152.vm) m #[(.int p0), (.int p1)] below meth c T152 L152 10 110 := X152
        have hS152 := foldS hS141 (T := T141) hk141 hs152 hg152
        have hZ152 : Z.Warmed39 (s.setVm T152.vm).vm := State.Warmed39.trans (t := s.setVm T141.vm) hZ141 hs152.1
        have ho152 : (s.setVm T152.vm).vm.findClass "com/example/honeybee/honeybee/device/DerReaderNullValuePinLaw" = some m.cls := by rw [show (s.setVm T152.vm).vm = T152.vm from rfl, hs152.1.alike.findClass]; exact ho141
        have hk152 : T152.heap.size ≤ T152.heap.size := Nat.le_refl _
        refine own_tr (B := (T152.setTop (mkF m 208 #[iv p0, iv p1, iv z3, iv z6, rv a1, rv a15, rv a44, rv a71, rv a118, .unset] [(.ref b152)]))) st152 ?_
        refine own_go (B := (T152.setTop (mkF m 210 #[iv p0, iv p1, iv z3, iv z6, rv a1, rv a15, rv a44, rv a71, rv a118, rv b152] []))) (fun t k => XS.astore X152.here hx rfl (hb hby at_208) rfl rfl (l' := #[iv p0, iv p1, iv z3, iv z6, rv a1, rv a15, rv a44, rv a71, rv a118, rv b152]) rfl k) ?_
        refine own_go (B := (T152.setTop (mkF m 212 #[iv p0, iv p1, iv z3, iv z6, rv a1, rv a15, rv a44, rv a71, rv a118, rv b152] [(.ref b152)]))) (fun t k => XS.aload X152.here hx rfl (hb hby at_210) rfl rfl k) ?_
        refine own_go (B := (T152.setTop (mkF m 213 #[iv p0, iv p1, iv z3, iv z6, rv a1, rv a15, rv a44, rv a71, rv a118, rv b152] [(.int (1 : Int32))]))) (own_alen X152 hx hZ152 rfl gv152 (n := (1 : Int32)) (own_lenL (n := 1) rfl (by decide)) (g := (mkF m 212 #[iv p0, iv p1, iv z3, iv z6, rv a1, rv a15, rv a44, rv a71, rv a118, rv b152] [(.ref b152)])) rfl rfl (hb hby at_212)) ?_
        refine own_go (B := (T152.setTop (mkF m 214 #[iv p0, iv p1, iv z3, iv z6, rv a1, rv a15, rv a44, rv a71, rv a118, rv b152] [(.int (1 : Int32)), (.int (1 : Int32))]))) (fun t k => own_iconst (v := (1 : Int32)) X152.here hx rfl (hb hby at_213) (by decide) k) ?_
        have hc214 : (1 : Int32) = (1 : Int32) := (by decide)
        refine own_icmpN X152 hx (hb hby at_214) (pn := 217) rfl hc214 ?_
        refine own_go (B := (T152.setTop (mkF m 219 #[iv p0, iv p1, iv z3, iv z6, rv a1, rv a15, rv a44, rv a71, rv a118, rv b152] [(.ref b152)]))) (fun t k => XS.aload X152.here hx rfl (hb hby at_217) rfl rfl k) ?_
        refine own_go (B := (T152.setTop (mkF m 220 #[iv p0, iv p1, iv z3, iv z6, rv a1, rv a15, rv a44, rv a71, rv a118, rv b152] [(.int (0 : Int32)), (.ref b152)]))) (fun t k => own_iconst (v := (0 : Int32)) X152.here hx rfl (hb hby at_219) (by decide) k) ?_
        refine own_go (B := (T152.setTop (mkF m 221 #[iv p0, iv p1, iv z3, iv z6, rv a1, rv a15, rv a44, rv a71, rv a118, rv b152] [(.int z6)]))) (own_ldB X152 hx hZ152 rfl gv152 (v := (.int z6)) (by decide) rfl (g := (mkF m 220 #[iv p0, iv p1, iv z3, iv z6, rv a1, rv a15, rv a44, rv a71, rv a118, rv b152] [(.int (0 : Int32)), (.ref b152)])) rfl rfl (hb hby at_220)) ?_
        refine own_go (B := (T152.setTop (mkF m 222 #[iv p0, iv p1, iv z3, iv z6, rv a1, rv a15, rv a44, rv a71, rv a118, rv b152] [(.int z6), (.int z6)]))) (fun t k => XS.iloadN X152.here hx rfl (hb hby at_221) rfl k) ?_
        have hc222 : z6 = z6 := rfl
        refine own_icmpN X152 hx (hb hby at_222) (pn := 225) rfl hc222 ?_
        refine own_go (B := (T152.setTop (mkF m 227 #[iv p0, iv p1, iv z3, iv z6, rv a1, rv a15, rv a44, rv a71, rv a118, rv b152] [(.ref a118)]))) (fun t k => XS.aload X152.here hx rfl (hb hby at_225) rfl rfl k) ?_
        obtain ⟨cq154, kq154, qa154, qb154, qc154⟩ := isOf hZ152 rfl Ex152
        obtain ⟨_, _, ⟨T154, L154, k154, n154⟩, -, X154, ⟨Lc154, hQ154, l154, y154, z154⟩, st154⟩ := X152.virtualBack hx (y := own_y10) (z := own_y10) ho152 (mvT hZ152 w_35) (mvT hZ152 w_36) (notFace_of_selects (args := #[]) (mvT hZ152 w_38)) (mvT hZ152 w_38) (mvT hZ152 w_37) (by decide) (backOf (W := 0) (own_ae l Z a0 hw [] a118 (5 : Int32) (5 : Int32) T152.heap n0 gp152 ge152) hZ152 w_39 w_3 (by decide) (by decide)) qa154 qc154 (g := (mkF m 227 #[iv p0, iv p1, iv z3, iv z6, rv a1, rv a15, rv a44, rv a71, rv a118, rv b152] [(.ref a118)])) rfl (by rw [hml]; rfl) (Steps.refl _) (argsL := []) (rest := []) (lenOf own_pd9 rfl) rfl (by show 2 * 0 + _ ≤ _; exact own_b rfl) (hb hby at_227) (fun _ _ => ⟨rfl, rfl, (own_b rfl : 10 + 0 ≤ _), (own_b rfl : 110 + 0 ≤ _)⟩)
        dsimp only [Pt.U, Pt.locs, Pt.cells, Pt.slots] at X154 l154 y154 z154 st154 hQ154
        obtain ⟨rfl, Nq154, eq154⟩ := hQ154
        obtain ⟨L154, X154, N154⟩ := own_absC (K := 10) (K' := 110) X154 l154 y154 z154 N152 Nq154
        have e154 : T154.heap = T152.heap := eq154
        refine own_tr (B := (T154.setTop (mkF m 230 #[iv p0, iv p1, iv z3, iv z6, rv a1, rv a15, rv a44, rv a71, rv a118, rv b152] [(.int (own_eqr (5 : Int32) (5 : Int32)))]))) st154 ?_
        rw [show own_eqr (5 : Int32) (5 : Int32) = (1 : Int32) from by decide]
        have hc230 : ¬ (1 : Int32) = (0 : Int32) := (by decide)
        refine own_ifN X154 hx (hb hby at_230) (pn := 233) rfl hc230 ?_
        refine own_go (B := (T154.setTop (mkF m 234 #[iv p0, iv p1, iv z3, iv z6, rv a1, rv a15, rv a44, rv a71, rv a118, rv b152] [(.int (1 : Int32))]))) (fun t k => own_iconst (v := (1 : Int32)) X154.here hx rfl (hb hby at_233) (by decide) k) ?_
        refine own_go (B := (T154.setTop (mkF m 238 #[iv p0, iv p1, iv z3, iv z6, rv a1, rv a15, rv a44, rv a71, rv a118, rv b152] [(.int (1 : Int32))]))) (fun t k => XS.goto X154.here hx rfl (pc0 := 234) (pc' := 238) rfl (hb hby at_234) (by decide) (by decide) k) ?_
        exact own_retWZ X154 hx hlk hS152 (by rw [e154]; exact hk152) Bd.returns (hb hby at_238) (by decide) (own_b rfl) (own_b rfl) (Q := (own_law_Q Z p0 p1 h0 n0)) ⟨rfl, N154⟩
      · obtain ⟨T155, h155, X155, e155, E155, A155, D155, U155, st155⟩ := newO X110 hx hZ hown w_1 w_2 w_3 e110 (g := (mkF m 157 #[iv p0, iv p1, iv z3, iv z6, rv a1, rv a15, rv a44, rv a71, .unset, .unset] [])) rfl (hb hby at_157) (own_b rfl) (own_b rfl)
        obtain ⟨a155, ga155⟩ : ∃ z, z = h110.size := ⟨_, rfl⟩
        rw [← ga155] at A155 D155 U155 st155
        refine own_go (B := (T155.setTop (mkF m 160 #[iv p0, iv p1, iv z3, iv z6, rv a1, rv a15, rv a44, rv a71, .unset, .unset] [(.ref a155)]))) st155 ?_
        have Z156 : 0 ≤ h155.size := Nat.le_trans F111 E155.1
        have Z157 : n0 ≤ h155.size := Nat.le_trans F112 E155.1
        have K158 := Keep.ext F113 E155
        have V159 := own_Ar_ext F114 E155
        have V160 := own_Ar_ext F115 E155
        have V161 := own_Ar_ext F116 E155
        have V162 := own_Ar_ext V110 E155
        have gn155 : n0 ≤ a155 := Nat.le_trans F112 (Nat.le_of_eq ga155.symm)
        have ne155_a1 : a155 ≠ a1 := fun q => absurd (own_Ar_lt F114) (by rw [← q, ga155]; exact Nat.lt_irrefl _)
        have ne155_a15 : a155 ≠ a15 := fun q => absurd (own_Ar_lt F115) (by rw [← q, ga155]; exact Nat.lt_irrefl _)
        have ne155_a44 : a155 ≠ a44 := fun q => absurd (own_Ar_lt F116) (by rw [← q, ga155]; exact Nat.lt_irrefl _)
        have ne155_a71 : a155 ≠ a71 := fun q => absurd (own_Ar_lt V110) (by rw [← q, ga155]; exact Nat.lt_irrefl _)
        have F163 : Fld Z h155 a155 "com/example/honeybee/honeybee/device/DerReader" "bytes" "[B" .null := D155 (Or.inr w_14) (ty := (.array .byte)) (by decide)
        have F164 : Fld Z h155 a155 "com/example/honeybee/honeybee/device/DerReader" "position" "I" (.int (0 : Int32)) := D155 (Or.inl w_16) (ty := .int) (by decide)
        have F165 : Fld Z h155 a155 "com/example/honeybee/honeybee/device/DerReader" "end" "I" (.int (0 : Int32)) := D155 (Or.inr w_18) (ty := .int) (by decide)
        refine own_go (B := (T155.setTop (mkF m 161 #[iv p0, iv p1, iv z3, iv z6, rv a1, rv a15, rv a44, rv a71, .unset, .unset] [(.ref a155), (.ref a155)]))) (fun t k => XS.dup X155.here hx rfl (hb hby at_160) rfl rfl k) ?_
        refine own_go (B := (T155.setTop (mkF m 163 #[iv p0, iv p1, iv z3, iv z6, rv a1, rv a15, rv a44, rv a71, .unset, .unset] [(.ref a44), (.ref a155), (.ref a155)]))) (fun t k => XS.aload X155.here hx rfl (hb hby at_161) rfl rfl k) ?_
        obtain ⟨_, _, ⟨T166, L166, k166, n166⟩, -, X166, ⟨Lc166, hQ166, l166, y166, z166⟩, st166⟩ := X155.specialBack hx (y := own_y7) rfl hown (mvT hZ w_4) (mvT hZ w_5) (mvT hZ w_6) (by decide) (backOf (W := 1) (own_ct1 l Z a0 hw [] a155 a44 (3 : Int32) [(.int (5 : Int32)), (.int (0 : Int32)), (.int z6)] h155 n0 Z157 A155 gn155 F163 F164 F165 V161 (own_lenL (n := 3) rfl (by decide))) hZ w_6 w_3 (by decide) (by decide)) (g := (mkF m 163 #[iv p0, iv p1, iv z3, iv z6, rv a1, rv a15, rv a44, rv a71, .unset, .unset] [(.ref a44), (.ref a155), (.ref a155)])) rfl (by rw [hml]; rfl) (Steps.refl _) (a := a155) (argsL := [(.ref a44)]) (rest := [(.ref a155)]) (lenOf own_pd6 rfl) rfl (by show 2 * 0 + _ ≤ _; exact own_b rfl) (hb hby at_163) (fun _ _ => ⟨rfl, e155, (own_b rfl : 5 + 0 ≤ _), (own_b rfl : 17 + 0 ≤ _)⟩)
        dsimp only [Pt.U, Pt.locs, Pt.cells, Pt.slots] at X166 l166 y166 z166 st166 hQ166
        obtain ⟨rfl, Nq166, K166, Ex166, gb166, gp166, ge166⟩ := hQ166
        obtain ⟨L166, X166, N166⟩ := own_absC (K := 5) (K' := 17) X166 l166 y166 z166 N110 Nq166
        have F167 : 0 ≤ T166.heap.size := Nat.le_trans Z156 K166.1
        have F168 : n0 ≤ T166.heap.size := Nat.le_trans Z157 K166.1
        have F169 := Keep.trans K158 K166 (allS (Or.inr (Nat.le_trans F113.1 (Nat.le_of_eq ga155.symm))) all0)
        have F170 := own_Ar_keep V159 K166 (ninS (Ne.symm ne155_a1) nin0)
        have F171 := own_Ar_keep V160 K166 (ninS (Ne.symm ne155_a15) nin0)
        have F172 := own_Ar_keep V161 K166 (ninS (Ne.symm ne155_a44) nin0)
        have F173 := own_Ar_keep V162 K166 (ninS (Ne.symm ne155_a71) nin0)
        have F174 := Exa.keep A155 K166
        refine own_tr (B := (T166.setTop (mkF m 166 #[iv p0, iv p1, iv z3, iv z6, rv a1, rv a15, rv a44, rv a71, .unset, .unset] [(.ref a155)]))) st166 ?_
        refine own_go (B := (T166.setTop (mkF m 168 #[iv p0, iv p1, iv z3, iv z6, rv a1, rv a15, rv a44, rv a71, rv a155, .unset] []))) (fun t k => XS.astore X166.here hx rfl (hb hby at_166) rfl rfl (l' := #[iv p0, iv p1, iv z3, iv z6, rv a1, rv a15, rv a44, rv a71, rv a155, .unset]) rfl k) ?_
        refine own_go (B := (T166.setTop (mkF m 170 #[iv p0, iv p1, iv z3, iv z6, rv a1, rv a15, rv a44, rv a71, rv a155, .unset] [(.ref a155)]))) (fun t k => XS.aload X166.here hx rfl (hb hby at_168) rfl rfl k) ?_
        obtain ⟨cq178, kq178, qa178, qb178, qc178⟩ := isOf hZ rfl Ex166
        obtain ⟨_, _, ⟨T178, L178, k178, n178⟩, -, X178, hs178, hg178, ⟨Lc178, hQ178, l178, y178, z178⟩, st178⟩ := X166.virtualBackS hx (y := own_y8) (z := own_y8) hown (mvT hZ w_19) (mvT hZ w_20) (notFace_of_selects (args := #[]) (mvT hZ w_22)) (mvT hZ w_22) (mvT hZ w_21) (by decide) (backOfS (W := 0) (own_nv l Z a0 hw [] a155 a44 (0 : Int32) (3 : Int32) (2 : Int32) (5 : Int32) (0 : Int32) [(.int (5 : Int32)), (.int (0 : Int32)), (.int z6)] T166.heap n0 F168 Ex166 gn155 gb166 gp166 ge166 F172 (by decide) (by decide) (by decide) rfl (by decide) rfl (by decide) (by decide) (by decide) (by decide)) hZ w_23 w_3 (by decide) (by decide)) qa178 qc178 (g := (mkF m 170 #[iv p0, iv p1, iv z3, iv z6, rv a1, rv a15, rv a44, rv a71, rv a155, .unset] [(.ref a155)])) rfl (by rw [hml]; rfl) (Steps.refl _) (argsL := []) (rest := []) (lenOf own_pd7 rfl) rfl (by show 2 * 0 + _ ≤ _; exact own_b rfl) (hb hby at_170) (fun _ _ => ⟨rfl, rfl, (own_b rfl : 5 + 2 ≤ _), (own_b rfl : 17 + 20 ≤ _)⟩)
        dsimp only [Pt.U, Pt.locs, Pt.cells, Pt.slots] at X178 l178 y178 z178 st178 hQ178 hs178 hg178
        obtain ⟨rfl, Nq178, K178, Ex178, gb178, gp178, ge178⟩ := hQ178
        obtain ⟨L178, X178, N178⟩ := own_absC (K := 7) (K' := 37) X178 l178 y178 z178 N166 Nq178
        have X178 : Stand p l e room_1 (s.setVm T178.vm) m #[(.int p0), (.int p1)] below meth c T178 L178 7 37 := X178
        have hS178 := foldS hS0 (T := T166) F167 hs178 hg178
        have hZ178 : Z.Warmed39 (s.setVm T178.vm).vm := State.Warmed39.trans (t := s.setVm s.vm) hZ hs178.1
        have ho178 : (s.setVm T178.vm).vm.findClass "com/example/honeybee/honeybee/device/DerReaderNullValuePinLaw" = some m.cls := by rw [show (s.setVm T178.vm).vm = T178.vm from rfl, hs178.1.alike.findClass]; exact hown
        have F179 : n0 ≤ T178.heap.size := Nat.le_trans F168 K178.1
        have F180 := Keep.trans F169 K178 (allS (Or.inr (Nat.le_trans F113.1 (Nat.le_of_eq ga155.symm))) all0)
        have F181 := own_Ar_keep F170 K178 (ninS (Ne.symm ne155_a1) nin0)
        have F182 := own_Ar_keep F171 K178 (ninS (Ne.symm ne155_a15) nin0)
        have F183 := own_Ar_keep F172 K178 (ninS (Ne.symm ne155_a44) nin0)
        have F184 := own_Ar_keep F173 K178 (ninS (Ne.symm ne155_a71) nin0)
        have F185 := Exa.keep Ex166 K178
        have hk178 : T178.heap.size ≤ T178.heap.size := Nat.le_refl _
        refine own_tr (B := (T178.setTop (mkF m 173 #[iv p0, iv p1, iv z3, iv z6, rv a1, rv a15, rv a44, rv a71, rv a155, .unset] []))) st178 ?_
        refine own_go (B := (T178.setTop (mkF m 175 #[iv p0, iv p1, iv z3, iv z6, rv a1, rv a15, rv a44, rv a71, rv a155, .unset] [(.ref a155)]))) (fun t k => XS.aload X178.here hx rfl (hb hby at_173) rfl rfl k) ?_
        obtain ⟨cq189, kq189, qa189, qb189, qc189⟩ := isOf hZ178 rfl Ex178
        obtain ⟨_, _, ⟨T189, L189, k189, n189⟩, -, X189, ⟨Lc189, hQ189, l189, y189, z189⟩, st189⟩ := X178.virtualBack hx (y := own_y10) (z := own_y10) ho178 (mvT hZ178 w_35) (mvT hZ178 w_36) (notFace_of_selects (args := #[]) (mvT hZ178 w_38)) (mvT hZ178 w_38) (mvT hZ178 w_37) (by decide) (backOf (W := 0) (own_ae l Z a0 hw [] a155 (2 : Int32) (3 : Int32) T178.heap n0 gp178 ge178) hZ178 w_39 w_3 (by decide) (by decide)) qa189 qc189 (g := (mkF m 175 #[iv p0, iv p1, iv z3, iv z6, rv a1, rv a15, rv a44, rv a71, rv a155, .unset] [(.ref a155)])) rfl (by rw [hml]; rfl) (Steps.refl _) (argsL := []) (rest := []) (lenOf own_pd9 rfl) rfl (by show 2 * 0 + _ ≤ _; exact own_b rfl) (hb hby at_175) (fun _ _ => ⟨rfl, rfl, (own_b rfl : 7 + 0 ≤ _), (own_b rfl : 37 + 0 ≤ _)⟩)
        dsimp only [Pt.U, Pt.locs, Pt.cells, Pt.slots] at X189 l189 y189 z189 st189 hQ189
        obtain ⟨rfl, Nq189, eq189⟩ := hQ189
        obtain ⟨L189, X189, N189⟩ := own_absC (K := 7) (K' := 37) X189 l189 y189 z189 N178 Nq189
        have e189 : T189.heap = T178.heap := eq189
        refine own_tr (B := (T189.setTop (mkF m 178 #[iv p0, iv p1, iv z3, iv z6, rv a1, rv a15, rv a44, rv a71, rv a155, .unset] [(.int (own_eqr (2 : Int32) (3 : Int32)))]))) st189 ?_
        rw [show own_eqr (2 : Int32) (3 : Int32) = (0 : Int32) from by decide]
        have hc178 : (0 : Int32) = (0 : Int32) := (by decide)
        refine own_ifN X189 hx (hb hby at_178) (pn := 181) rfl hc178 ?_
        refine own_go (B := (T189.setTop (mkF m 182 #[iv p0, iv p1, iv z3, iv z6, rv a1, rv a15, rv a44, rv a71, rv a155, .unset] [(.int (1 : Int32))]))) (fun t k => own_iconst (v := (1 : Int32)) X189.here hx rfl (hb hby at_181) (by decide) k) ?_
        refine own_go (B := (T189.setTop (mkF m 186 #[iv p0, iv p1, iv z3, iv z6, rv a1, rv a15, rv a44, rv a71, rv a155, .unset] [(.int (1 : Int32))]))) (fun t k => XS.goto X189.here hx rfl (pc0 := 182) (pc' := 186) rfl (hb hby at_182) (by decide) (by decide) k) ?_
        exact own_retWZ X189 hx hlk hS178 (by rw [e189]; exact hk178) Bd.returns (hb hby at_186) (by decide) (own_b rfl) (own_b rfl) (Q := (own_law_Q Z p0 p1 h0 n0)) ⟨rfl, N189⟩
    · obtain ⟨T190, h190, X190, e190, E190, A190, D190, U190, st190⟩ := newO X110 hx hZ hown w_1 w_2 w_3 e110 (g := (mkF m 115 #[iv p0, iv p1, iv z3, iv z6, rv a1, rv a15, rv a44, rv a71, .unset, .unset] [])) rfl (hb hby at_115) (own_b rfl) (own_b rfl)
      obtain ⟨a190, ga190⟩ : ∃ z, z = h110.size := ⟨_, rfl⟩
      rw [← ga190] at A190 D190 U190 st190
      refine own_go (B := (T190.setTop (mkF m 118 #[iv p0, iv p1, iv z3, iv z6, rv a1, rv a15, rv a44, rv a71, .unset, .unset] [(.ref a190)]))) st190 ?_
      have Z191 : 0 ≤ h190.size := Nat.le_trans F111 E190.1
      have Z192 : n0 ≤ h190.size := Nat.le_trans F112 E190.1
      have K193 := Keep.ext F113 E190
      have V194 := own_Ar_ext F114 E190
      have V195 := own_Ar_ext F115 E190
      have V196 := own_Ar_ext F116 E190
      have V197 := own_Ar_ext V110 E190
      have gn190 : n0 ≤ a190 := Nat.le_trans F112 (Nat.le_of_eq ga190.symm)
      have ne190_a1 : a190 ≠ a1 := fun q => absurd (own_Ar_lt F114) (by rw [← q, ga190]; exact Nat.lt_irrefl _)
      have ne190_a15 : a190 ≠ a15 := fun q => absurd (own_Ar_lt F115) (by rw [← q, ga190]; exact Nat.lt_irrefl _)
      have ne190_a44 : a190 ≠ a44 := fun q => absurd (own_Ar_lt F116) (by rw [← q, ga190]; exact Nat.lt_irrefl _)
      have ne190_a71 : a190 ≠ a71 := fun q => absurd (own_Ar_lt V110) (by rw [← q, ga190]; exact Nat.lt_irrefl _)
      have F198 : Fld Z h190 a190 "com/example/honeybee/honeybee/device/DerReader" "bytes" "[B" .null := D190 (Or.inr w_14) (ty := (.array .byte)) (by decide)
      have F199 : Fld Z h190 a190 "com/example/honeybee/honeybee/device/DerReader" "position" "I" (.int (0 : Int32)) := D190 (Or.inl w_16) (ty := .int) (by decide)
      have F200 : Fld Z h190 a190 "com/example/honeybee/honeybee/device/DerReader" "end" "I" (.int (0 : Int32)) := D190 (Or.inr w_18) (ty := .int) (by decide)
      refine own_go (B := (T190.setTop (mkF m 119 #[iv p0, iv p1, iv z3, iv z6, rv a1, rv a15, rv a44, rv a71, .unset, .unset] [(.ref a190), (.ref a190)]))) (fun t k => XS.dup X190.here hx rfl (hb hby at_118) rfl rfl k) ?_
      refine own_go (B := (T190.setTop (mkF m 121 #[iv p0, iv p1, iv z3, iv z6, rv a1, rv a15, rv a44, rv a71, .unset, .unset] [(.ref a15), (.ref a190), (.ref a190)]))) (fun t k => XS.aload X190.here hx rfl (hb hby at_119) rfl rfl k) ?_
      obtain ⟨_, _, ⟨T201, L201, k201, n201⟩, -, X201, ⟨Lc201, hQ201, l201, y201, z201⟩, st201⟩ := X190.specialBack hx (y := own_y7) rfl hown (mvT hZ w_4) (mvT hZ w_5) (mvT hZ w_6) (by decide) (backOf (W := 1) (own_ct1 l Z a0 hw [] a190 a15 (4 : Int32) [(.int (5 : Int32)), (.int (0 : Int32)), (.int (5 : Int32)), (.int (0 : Int32))] h190 n0 Z192 A190 gn190 F198 F199 F200 V195 (own_lenL (n := 4) rfl (by decide))) hZ w_6 w_3 (by decide) (by decide)) (g := (mkF m 121 #[iv p0, iv p1, iv z3, iv z6, rv a1, rv a15, rv a44, rv a71, .unset, .unset] [(.ref a15), (.ref a190), (.ref a190)])) rfl (by rw [hml]; rfl) (Steps.refl _) (a := a190) (argsL := [(.ref a15)]) (rest := [(.ref a190)]) (lenOf own_pd6 rfl) rfl (by show 2 * 0 + _ ≤ _; exact own_b rfl) (hb hby at_121) (fun _ _ => ⟨rfl, e190, (own_b rfl : 5 + 0 ≤ _), (own_b rfl : 17 + 0 ≤ _)⟩)
      dsimp only [Pt.U, Pt.locs, Pt.cells, Pt.slots] at X201 l201 y201 z201 st201 hQ201
      obtain ⟨rfl, Nq201, K201, Ex201, gb201, gp201, ge201⟩ := hQ201
      obtain ⟨L201, X201, N201⟩ := own_absC (K := 5) (K' := 17) X201 l201 y201 z201 N110 Nq201
      have F202 : 0 ≤ T201.heap.size := Nat.le_trans Z191 K201.1
      have F203 : n0 ≤ T201.heap.size := Nat.le_trans Z192 K201.1
      have F204 := Keep.trans K193 K201 (allS (Or.inr (Nat.le_trans F113.1 (Nat.le_of_eq ga190.symm))) all0)
      have F205 := own_Ar_keep V194 K201 (ninS (Ne.symm ne190_a1) nin0)
      have F206 := own_Ar_keep V195 K201 (ninS (Ne.symm ne190_a15) nin0)
      have F207 := own_Ar_keep V196 K201 (ninS (Ne.symm ne190_a44) nin0)
      have F208 := own_Ar_keep V197 K201 (ninS (Ne.symm ne190_a71) nin0)
      have F209 := Exa.keep A190 K201
      refine own_tr (B := (T201.setTop (mkF m 124 #[iv p0, iv p1, iv z3, iv z6, rv a1, rv a15, rv a44, rv a71, .unset, .unset] [(.ref a190)]))) st201 ?_
      refine own_go (B := (T201.setTop (mkF m 126 #[iv p0, iv p1, iv z3, iv z6, rv a1, rv a15, rv a44, rv a71, rv a190, .unset] []))) (fun t k => XS.astore X201.here hx rfl (hb hby at_124) rfl rfl (l' := #[iv p0, iv p1, iv z3, iv z6, rv a1, rv a15, rv a44, rv a71, rv a190, .unset]) rfl k) ?_
      refine own_go (B := (T201.setTop (mkF m 128 #[iv p0, iv p1, iv z3, iv z6, rv a1, rv a15, rv a44, rv a71, rv a190, .unset] [(.ref a190)]))) (fun t k => XS.aload X201.here hx rfl (hb hby at_126) rfl rfl k) ?_
      obtain ⟨cq213, kq213, qa213, qb213, qc213⟩ := isOf hZ rfl Ex201
      obtain ⟨_, _, ⟨T213, L213, k213, n213⟩, -, X213, hs213, hg213, ⟨Lc213, hQ213, l213, y213, z213⟩, st213⟩ := X201.virtualBackS hx (y := own_y8) (z := own_y8) hown (mvT hZ w_19) (mvT hZ w_20) (notFace_of_selects (args := #[]) (mvT hZ w_22)) (mvT hZ w_22) (mvT hZ w_21) (by decide) (backOfS (W := 0) (own_nv l Z a0 hw [] a190 a15 (0 : Int32) (4 : Int32) (2 : Int32) (5 : Int32) (0 : Int32) [(.int (5 : Int32)), (.int (0 : Int32)), (.int (5 : Int32)), (.int (0 : Int32))] T201.heap n0 F203 Ex201 gn190 gb201 gp201 ge201 F206 (by decide) (by decide) (by decide) rfl (by decide) rfl (by decide) (by decide) (by decide) (by decide)) hZ w_23 w_3 (by decide) (by decide)) qa213 qc213 (g := (mkF m 128 #[iv p0, iv p1, iv z3, iv z6, rv a1, rv a15, rv a44, rv a71, rv a190, .unset] [(.ref a190)])) rfl (by rw [hml]; rfl) (Steps.refl _) (argsL := []) (rest := []) (lenOf own_pd7 rfl) rfl (by show 2 * 0 + _ ≤ _; exact own_b rfl) (hb hby at_128) (fun _ _ => ⟨rfl, rfl, (own_b rfl : 5 + 2 ≤ _), (own_b rfl : 17 + 20 ≤ _)⟩)
      dsimp only [Pt.U, Pt.locs, Pt.cells, Pt.slots] at X213 l213 y213 z213 st213 hQ213 hs213 hg213
      obtain ⟨rfl, Nq213, K213, Ex213, gb213, gp213, ge213⟩ := hQ213
      obtain ⟨L213, X213, N213⟩ := own_absC (K := 7) (K' := 37) X213 l213 y213 z213 N201 Nq213
      have X213 : Stand p l e room_1 (s.setVm T213.vm) m #[(.int p0), (.int p1)] below meth c T213 L213 7 37 := X213
      have hS213 := foldS hS0 (T := T201) F202 hs213 hg213
      have hZ213 : Z.Warmed39 (s.setVm T213.vm).vm := State.Warmed39.trans (t := s.setVm s.vm) hZ hs213.1
      have ho213 : (s.setVm T213.vm).vm.findClass "com/example/honeybee/honeybee/device/DerReaderNullValuePinLaw" = some m.cls := by rw [show (s.setVm T213.vm).vm = T213.vm from rfl, hs213.1.alike.findClass]; exact hown
      have F214 : n0 ≤ T213.heap.size := Nat.le_trans F203 K213.1
      have F215 := Keep.trans F204 K213 (allS (Or.inr (Nat.le_trans F113.1 (Nat.le_of_eq ga190.symm))) all0)
      have F216 := own_Ar_keep F205 K213 (ninS (Ne.symm ne190_a1) nin0)
      have F217 := own_Ar_keep F206 K213 (ninS (Ne.symm ne190_a15) nin0)
      have F218 := own_Ar_keep F207 K213 (ninS (Ne.symm ne190_a44) nin0)
      have F219 := own_Ar_keep F208 K213 (ninS (Ne.symm ne190_a71) nin0)
      have F220 := Exa.keep Ex201 K213
      have hk213 : T213.heap.size ≤ T213.heap.size := Nat.le_refl _
      refine own_tr (B := (T213.setTop (mkF m 131 #[iv p0, iv p1, iv z3, iv z6, rv a1, rv a15, rv a44, rv a71, rv a190, .unset] []))) st213 ?_
      refine own_go (B := (T213.setTop (mkF m 133 #[iv p0, iv p1, iv z3, iv z6, rv a1, rv a15, rv a44, rv a71, rv a190, .unset] [(.ref a190)]))) (fun t k => XS.aload X213.here hx rfl (hb hby at_131) rfl rfl k) ?_
      obtain ⟨cq224, kq224, qa224, qb224, qc224⟩ := isOf hZ213 rfl Ex213
      obtain ⟨_, _, ⟨T224, L224, k224, n224⟩, -, X224, ⟨Lc224, hQ224, l224, y224, z224⟩, st224⟩ := X213.virtualBack hx (y := own_y10) (z := own_y10) ho213 (mvT hZ213 w_35) (mvT hZ213 w_36) (notFace_of_selects (args := #[]) (mvT hZ213 w_38)) (mvT hZ213 w_38) (mvT hZ213 w_37) (by decide) (backOf (W := 0) (own_ae l Z a0 hw [] a190 (2 : Int32) (4 : Int32) T213.heap n0 gp213 ge213) hZ213 w_39 w_3 (by decide) (by decide)) qa224 qc224 (g := (mkF m 133 #[iv p0, iv p1, iv z3, iv z6, rv a1, rv a15, rv a44, rv a71, rv a190, .unset] [(.ref a190)])) rfl (by rw [hml]; rfl) (Steps.refl _) (argsL := []) (rest := []) (lenOf own_pd9 rfl) rfl (by show 2 * 0 + _ ≤ _; exact own_b rfl) (hb hby at_133) (fun _ _ => ⟨rfl, rfl, (own_b rfl : 7 + 0 ≤ _), (own_b rfl : 37 + 0 ≤ _)⟩)
      dsimp only [Pt.U, Pt.locs, Pt.cells, Pt.slots] at X224 l224 y224 z224 st224 hQ224
      obtain ⟨rfl, Nq224, eq224⟩ := hQ224
      obtain ⟨L224, X224, N224⟩ := own_absC (K := 7) (K' := 37) X224 l224 y224 z224 N213 Nq224
      have e224 : T224.heap = T213.heap := eq224
      refine own_tr (B := (T224.setTop (mkF m 136 #[iv p0, iv p1, iv z3, iv z6, rv a1, rv a15, rv a44, rv a71, rv a190, .unset] [(.int (own_eqr (2 : Int32) (4 : Int32)))]))) st224 ?_
      rw [show own_eqr (2 : Int32) (4 : Int32) = (0 : Int32) from by decide]
      have hc136 : (0 : Int32) = (0 : Int32) := (by decide)
      refine own_ifY X224 hx (hb hby at_136) (pc' := 141) (by decide) (by decide) hc136 ?_
      refine own_go (B := (T224.setTop (mkF m 143 #[iv p0, iv p1, iv z3, iv z6, rv a1, rv a15, rv a44, rv a71, rv a190, .unset] [(.ref a190)]))) (fun t k => XS.aload X224.here hx rfl (hb hby at_141) rfl rfl k) ?_
      obtain ⟨cq225, kq225, qa225, qb225, qc225⟩ := isOf hZ213 e224 Ex213
      obtain ⟨_, _, ⟨T225, L225, k225, n225⟩, -, X225, hs225, hg225, ⟨Lc225, hQ225, l225, y225, z225⟩, st225⟩ := X224.virtualBackS hx (y := own_y8) (z := own_y8) ho213 (mvT hZ213 w_19) (mvT hZ213 w_20) (notFace_of_selects (args := #[]) (mvT hZ213 w_22)) (mvT hZ213 w_22) (mvT hZ213 w_21) (by decide) (backOfS (W := 0) (own_nv l Z a0 hw [] a190 a15 (2 : Int32) (4 : Int32) (4 : Int32) (5 : Int32) (0 : Int32) [(.int (5 : Int32)), (.int (0 : Int32)), (.int (5 : Int32)), (.int (0 : Int32))] T213.heap n0 F214 Ex213 gn190 gb213 gp213 ge213 F217 (by decide) (by decide) (by decide) rfl (by decide) rfl (by decide) (by decide) (by decide) (by decide)) hZ213 w_23 w_3 (by decide) (by decide)) qa225 qc225 (g := (mkF m 143 #[iv p0, iv p1, iv z3, iv z6, rv a1, rv a15, rv a44, rv a71, rv a190, .unset] [(.ref a190)])) rfl (by rw [hml]; rfl) (Steps.refl _) (argsL := []) (rest := []) (lenOf own_pd7 rfl) rfl (by show 2 * 0 + _ ≤ _; exact own_b rfl) (hb hby at_143) (fun _ _ => ⟨rfl, e224, (own_b rfl : 7 + 2 ≤ _), (own_b rfl : 37 + 20 ≤ _)⟩)
      dsimp only [Pt.U, Pt.locs, Pt.cells, Pt.slots] at X225 l225 y225 z225 st225 hQ225 hs225 hg225
      obtain ⟨rfl, Nq225, K225, Ex225, gb225, gp225, ge225⟩ := hQ225
      obtain ⟨L225, X225, N225⟩ := own_absC (K := 9) (K' := 57) X225 l225 y225 z225 N224 Nq225
      have X225 : Stand p l e room_1 (s.setVm T225.vm) m #[(.int p0), (.int p1)] below meth c T225 L225 9 57 := X225
      have hS225 := foldS hS213 (T := T224) (by rw [e224]; exact hk213) hs225 hg225
      have hZ225 : Z.Warmed39 (s.setVm T225.vm).vm := State.Warmed39.trans (t := s.setVm T213.vm) hZ213 hs225.1
      have ho225 : (s.setVm T225.vm).vm.findClass "com/example/honeybee/honeybee/device/DerReaderNullValuePinLaw" = some m.cls := by rw [show (s.setVm T225.vm).vm = T225.vm from rfl, hs225.1.alike.findClass]; exact ho213
      have F226 : n0 ≤ T225.heap.size := Nat.le_trans F214 K225.1
      have F227 := Keep.trans F215 K225 (allS (Or.inr (Nat.le_trans F113.1 (Nat.le_of_eq ga190.symm))) all0)
      have F228 := own_Ar_keep F216 K225 (ninS (Ne.symm ne190_a1) nin0)
      have F229 := own_Ar_keep F217 K225 (ninS (Ne.symm ne190_a15) nin0)
      have F230 := own_Ar_keep F218 K225 (ninS (Ne.symm ne190_a44) nin0)
      have F231 := own_Ar_keep F219 K225 (ninS (Ne.symm ne190_a71) nin0)
      have F232 := Exa.keep Ex213 K225
      have hk225 : T225.heap.size ≤ T225.heap.size := Nat.le_refl _
      refine own_tr (B := (T225.setTop (mkF m 146 #[iv p0, iv p1, iv z3, iv z6, rv a1, rv a15, rv a44, rv a71, rv a190, .unset] []))) st225 ?_
      refine own_go (B := (T225.setTop (mkF m 148 #[iv p0, iv p1, iv z3, iv z6, rv a1, rv a15, rv a44, rv a71, rv a190, .unset] [(.ref a190)]))) (fun t k => XS.aload X225.here hx rfl (hb hby at_146) rfl rfl k) ?_
      obtain ⟨cq236, kq236, qa236, qb236, qc236⟩ := isOf hZ225 rfl Ex225
      obtain ⟨_, _, ⟨T236, L236, k236, n236⟩, -, X236, ⟨Lc236, hQ236, l236, y236, z236⟩, st236⟩ := X225.virtualBack hx (y := own_y10) (z := own_y10) ho225 (mvT hZ225 w_35) (mvT hZ225 w_36) (notFace_of_selects (args := #[]) (mvT hZ225 w_38)) (mvT hZ225 w_38) (mvT hZ225 w_37) (by decide) (backOf (W := 0) (own_ae l Z a0 hw [] a190 (4 : Int32) (4 : Int32) T225.heap n0 gp225 ge225) hZ225 w_39 w_3 (by decide) (by decide)) qa236 qc236 (g := (mkF m 148 #[iv p0, iv p1, iv z3, iv z6, rv a1, rv a15, rv a44, rv a71, rv a190, .unset] [(.ref a190)])) rfl (by rw [hml]; rfl) (Steps.refl _) (argsL := []) (rest := []) (lenOf own_pd9 rfl) rfl (by show 2 * 0 + _ ≤ _; exact own_b rfl) (hb hby at_148) (fun _ _ => ⟨rfl, rfl, (own_b rfl : 9 + 0 ≤ _), (own_b rfl : 57 + 0 ≤ _)⟩)
      dsimp only [Pt.U, Pt.locs, Pt.cells, Pt.slots] at X236 l236 y236 z236 st236 hQ236
      obtain ⟨rfl, Nq236, eq236⟩ := hQ236
      obtain ⟨L236, X236, N236⟩ := own_absC (K := 9) (K' := 57) X236 l236 y236 z236 N225 Nq236
      have e236 : T236.heap = T225.heap := eq236
      refine own_tr (B := (T236.setTop (mkF m 151 #[iv p0, iv p1, iv z3, iv z6, rv a1, rv a15, rv a44, rv a71, rv a190, .unset] [(.int (own_eqr (4 : Int32) (4 : Int32)))]))) st236 ?_
      rw [show own_eqr (4 : Int32) (4 : Int32) = (1 : Int32) from by decide]
      exact own_retWZ X236 hx hlk hS225 (by rw [e236]; exact hk225) Bd.returns (hb hby at_151) (by decide) (own_b rfl) (own_b rfl) (Q := (own_law_Q Z p0 p1 h0 n0)) ⟨rfl, N236⟩
  · obtain ⟨T237, h237, X237, e237, E237, A237, D237, U237, st237⟩ := newO X110 hx hZ hown w_1 w_2 w_3 e110 (g := (mkF m 88 #[iv p0, iv p1, iv z3, iv z6, rv a1, rv a15, rv a44, rv a71, .unset, .unset] [])) rfl (hb hby at_88) (own_b rfl) (own_b rfl)
    obtain ⟨a237, ga237⟩ : ∃ z, z = h110.size := ⟨_, rfl⟩
    rw [← ga237] at A237 D237 U237 st237
    refine own_go (B := (T237.setTop (mkF m 91 #[iv p0, iv p1, iv z3, iv z6, rv a1, rv a15, rv a44, rv a71, .unset, .unset] [(.ref a237)]))) st237 ?_
    have Z238 : 0 ≤ h237.size := Nat.le_trans F111 E237.1
    have Z239 : n0 ≤ h237.size := Nat.le_trans F112 E237.1
    have K240 := Keep.ext F113 E237
    have V241 := own_Ar_ext F114 E237
    have V242 := own_Ar_ext F115 E237
    have V243 := own_Ar_ext F116 E237
    have V244 := own_Ar_ext V110 E237
    have gn237 : n0 ≤ a237 := Nat.le_trans F112 (Nat.le_of_eq ga237.symm)
    have ne237_a1 : a237 ≠ a1 := fun q => absurd (own_Ar_lt F114) (by rw [← q, ga237]; exact Nat.lt_irrefl _)
    have ne237_a15 : a237 ≠ a15 := fun q => absurd (own_Ar_lt F115) (by rw [← q, ga237]; exact Nat.lt_irrefl _)
    have ne237_a44 : a237 ≠ a44 := fun q => absurd (own_Ar_lt F116) (by rw [← q, ga237]; exact Nat.lt_irrefl _)
    have ne237_a71 : a237 ≠ a71 := fun q => absurd (own_Ar_lt V110) (by rw [← q, ga237]; exact Nat.lt_irrefl _)
    have F245 : Fld Z h237 a237 "com/example/honeybee/honeybee/device/DerReader" "bytes" "[B" .null := D237 (Or.inr w_14) (ty := (.array .byte)) (by decide)
    have F246 : Fld Z h237 a237 "com/example/honeybee/honeybee/device/DerReader" "position" "I" (.int (0 : Int32)) := D237 (Or.inl w_16) (ty := .int) (by decide)
    have F247 : Fld Z h237 a237 "com/example/honeybee/honeybee/device/DerReader" "end" "I" (.int (0 : Int32)) := D237 (Or.inr w_18) (ty := .int) (by decide)
    refine own_go (B := (T237.setTop (mkF m 92 #[iv p0, iv p1, iv z3, iv z6, rv a1, rv a15, rv a44, rv a71, .unset, .unset] [(.ref a237), (.ref a237)]))) (fun t k => XS.dup X237.here hx rfl (hb hby at_91) rfl rfl k) ?_
    refine own_go (B := (T237.setTop (mkF m 94 #[iv p0, iv p1, iv z3, iv z6, rv a1, rv a15, rv a44, rv a71, .unset, .unset] [(.ref a1), (.ref a237), (.ref a237)]))) (fun t k => XS.aload X237.here hx rfl (hb hby at_92) rfl rfl k) ?_
    obtain ⟨_, _, ⟨T248, L248, k248, n248⟩, -, X248, ⟨Lc248, hQ248, l248, y248, z248⟩, st248⟩ := X237.specialBack hx (y := own_y7) rfl hown (mvT hZ w_4) (mvT hZ w_5) (mvT hZ w_6) (by decide) (backOf (W := 1) (own_ct1 l Z a0 hw [] a237 a1 (2 : Int32) [(.int (5 : Int32)), (.int (0 : Int32))] h237 n0 Z239 A237 gn237 F245 F246 F247 V241 (own_lenL (n := 2) rfl (by decide))) hZ w_6 w_3 (by decide) (by decide)) (g := (mkF m 94 #[iv p0, iv p1, iv z3, iv z6, rv a1, rv a15, rv a44, rv a71, .unset, .unset] [(.ref a1), (.ref a237), (.ref a237)])) rfl (by rw [hml]; rfl) (Steps.refl _) (a := a237) (argsL := [(.ref a1)]) (rest := [(.ref a237)]) (lenOf own_pd6 rfl) rfl (by show 2 * 0 + _ ≤ _; exact own_b rfl) (hb hby at_94) (fun _ _ => ⟨rfl, e237, (own_b rfl : 5 + 0 ≤ _), (own_b rfl : 17 + 0 ≤ _)⟩)
    dsimp only [Pt.U, Pt.locs, Pt.cells, Pt.slots] at X248 l248 y248 z248 st248 hQ248
    obtain ⟨rfl, Nq248, K248, Ex248, gb248, gp248, ge248⟩ := hQ248
    obtain ⟨L248, X248, N248⟩ := own_absC (K := 5) (K' := 17) X248 l248 y248 z248 N110 Nq248
    have F249 : 0 ≤ T248.heap.size := Nat.le_trans Z238 K248.1
    have F250 : n0 ≤ T248.heap.size := Nat.le_trans Z239 K248.1
    have F251 := Keep.trans K240 K248 (allS (Or.inr (Nat.le_trans F113.1 (Nat.le_of_eq ga237.symm))) all0)
    have F252 := own_Ar_keep V241 K248 (ninS (Ne.symm ne237_a1) nin0)
    have F253 := own_Ar_keep V242 K248 (ninS (Ne.symm ne237_a15) nin0)
    have F254 := own_Ar_keep V243 K248 (ninS (Ne.symm ne237_a44) nin0)
    have F255 := own_Ar_keep V244 K248 (ninS (Ne.symm ne237_a71) nin0)
    have F256 := Exa.keep A237 K248
    refine own_tr (B := (T248.setTop (mkF m 97 #[iv p0, iv p1, iv z3, iv z6, rv a1, rv a15, rv a44, rv a71, .unset, .unset] [(.ref a237)]))) st248 ?_
    refine own_go (B := (T248.setTop (mkF m 99 #[iv p0, iv p1, iv z3, iv z6, rv a1, rv a15, rv a44, rv a71, rv a237, .unset] []))) (fun t k => XS.astore X248.here hx rfl (hb hby at_97) rfl rfl (l' := #[iv p0, iv p1, iv z3, iv z6, rv a1, rv a15, rv a44, rv a71, rv a237, .unset]) rfl k) ?_
    refine own_go (B := (T248.setTop (mkF m 101 #[iv p0, iv p1, iv z3, iv z6, rv a1, rv a15, rv a44, rv a71, rv a237, .unset] [(.ref a237)]))) (fun t k => XS.aload X248.here hx rfl (hb hby at_99) rfl rfl k) ?_
    obtain ⟨cq260, kq260, qa260, qb260, qc260⟩ := isOf hZ rfl Ex248
    obtain ⟨_, _, ⟨T260, L260, k260, n260⟩, -, X260, hs260, hg260, ⟨Lc260, hQ260, l260, y260, z260⟩, st260⟩ := X248.virtualBackS hx (y := own_y8) (z := own_y8) hown (mvT hZ w_19) (mvT hZ w_20) (notFace_of_selects (args := #[]) (mvT hZ w_22)) (mvT hZ w_22) (mvT hZ w_21) (by decide) (backOfS (W := 0) (own_nv l Z a0 hw [] a237 a1 (0 : Int32) (2 : Int32) (2 : Int32) (5 : Int32) (0 : Int32) [(.int (5 : Int32)), (.int (0 : Int32))] T248.heap n0 F250 Ex248 gn237 gb248 gp248 ge248 F252 (by decide) (by decide) (by decide) rfl (by decide) rfl (by decide) (by decide) (by decide) (by decide)) hZ w_23 w_3 (by decide) (by decide)) qa260 qc260 (g := (mkF m 101 #[iv p0, iv p1, iv z3, iv z6, rv a1, rv a15, rv a44, rv a71, rv a237, .unset] [(.ref a237)])) rfl (by rw [hml]; rfl) (Steps.refl _) (argsL := []) (rest := []) (lenOf own_pd7 rfl) rfl (by show 2 * 0 + _ ≤ _; exact own_b rfl) (hb hby at_101) (fun _ _ => ⟨rfl, rfl, (own_b rfl : 5 + 2 ≤ _), (own_b rfl : 17 + 20 ≤ _)⟩)
    dsimp only [Pt.U, Pt.locs, Pt.cells, Pt.slots] at X260 l260 y260 z260 st260 hQ260 hs260 hg260
    obtain ⟨rfl, Nq260, K260, Ex260, gb260, gp260, ge260⟩ := hQ260
    obtain ⟨L260, X260, N260⟩ := own_absC (K := 7) (K' := 37) X260 l260 y260 z260 N248 Nq260
    have X260 : Stand p l e room_1 (s.setVm T260.vm) m #[(.int p0), (.int p1)] below meth c T260 L260 7 37 := X260
    have hS260 := foldS hS0 (T := T248) F249 hs260 hg260
    have hZ260 : Z.Warmed39 (s.setVm T260.vm).vm := State.Warmed39.trans (t := s.setVm s.vm) hZ hs260.1
    have ho260 : (s.setVm T260.vm).vm.findClass "com/example/honeybee/honeybee/device/DerReaderNullValuePinLaw" = some m.cls := by rw [show (s.setVm T260.vm).vm = T260.vm from rfl, hs260.1.alike.findClass]; exact hown
    have F261 : n0 ≤ T260.heap.size := Nat.le_trans F250 K260.1
    have F262 := Keep.trans F251 K260 (allS (Or.inr (Nat.le_trans F113.1 (Nat.le_of_eq ga237.symm))) all0)
    have F263 := own_Ar_keep F252 K260 (ninS (Ne.symm ne237_a1) nin0)
    have F264 := own_Ar_keep F253 K260 (ninS (Ne.symm ne237_a15) nin0)
    have F265 := own_Ar_keep F254 K260 (ninS (Ne.symm ne237_a44) nin0)
    have F266 := own_Ar_keep F255 K260 (ninS (Ne.symm ne237_a71) nin0)
    have F267 := Exa.keep Ex248 K260
    have hk260 : T260.heap.size ≤ T260.heap.size := Nat.le_refl _
    refine own_tr (B := (T260.setTop (mkF m 104 #[iv p0, iv p1, iv z3, iv z6, rv a1, rv a15, rv a44, rv a71, rv a237, .unset] []))) st260 ?_
    refine own_go (B := (T260.setTop (mkF m 106 #[iv p0, iv p1, iv z3, iv z6, rv a1, rv a15, rv a44, rv a71, rv a237, .unset] [(.ref a237)]))) (fun t k => XS.aload X260.here hx rfl (hb hby at_104) rfl rfl k) ?_
    obtain ⟨cq271, kq271, qa271, qb271, qc271⟩ := isOf hZ260 rfl Ex260
    obtain ⟨_, _, ⟨T271, L271, k271, n271⟩, -, X271, ⟨Lc271, hQ271, l271, y271, z271⟩, st271⟩ := X260.virtualBack hx (y := own_y10) (z := own_y10) ho260 (mvT hZ260 w_35) (mvT hZ260 w_36) (notFace_of_selects (args := #[]) (mvT hZ260 w_38)) (mvT hZ260 w_38) (mvT hZ260 w_37) (by decide) (backOf (W := 0) (own_ae l Z a0 hw [] a237 (2 : Int32) (2 : Int32) T260.heap n0 gp260 ge260) hZ260 w_39 w_3 (by decide) (by decide)) qa271 qc271 (g := (mkF m 106 #[iv p0, iv p1, iv z3, iv z6, rv a1, rv a15, rv a44, rv a71, rv a237, .unset] [(.ref a237)])) rfl (by rw [hml]; rfl) (Steps.refl _) (argsL := []) (rest := []) (lenOf own_pd9 rfl) rfl (by show 2 * 0 + _ ≤ _; exact own_b rfl) (hb hby at_106) (fun _ _ => ⟨rfl, rfl, (own_b rfl : 7 + 0 ≤ _), (own_b rfl : 37 + 0 ≤ _)⟩)
    dsimp only [Pt.U, Pt.locs, Pt.cells, Pt.slots] at X271 l271 y271 z271 st271 hQ271
    obtain ⟨rfl, Nq271, eq271⟩ := hQ271
    obtain ⟨L271, X271, N271⟩ := own_absC (K := 7) (K' := 37) X271 l271 y271 z271 N260 Nq271
    have e271 : T271.heap = T260.heap := eq271
    refine own_tr (B := (T271.setTop (mkF m 109 #[iv p0, iv p1, iv z3, iv z6, rv a1, rv a15, rv a44, rv a71, rv a237, .unset] [(.int (own_eqr (2 : Int32) (2 : Int32)))]))) st271 ?_
    rw [show own_eqr (2 : Int32) (2 : Int32) = (1 : Int32) from by decide]
    exact own_retWZ X271 hx hlk hS260 (by rw [e271]; exact hk260) Bd.returns (hb hby at_109) (by decide) (own_b rfl) (own_b rfl) (Q := (own_law_Q Z p0 p1 h0 n0)) ⟨rfl, N271⟩

set_option maxRecDepth 65536 in
set_option maxHeartbeats 40000000 in
theorem own_comes {Post : Tables → Env → Array Value → State → Outcome → State → Prop} (hpost : ∀ tb e args s v u, (limb_1_1.after args s (.returned v) u = true ∧ limb_1_2.after args s (.returned v) u = true ∧ True) → ReturnedEndW s (.returned v) u (Jvm.fieldLocs frame_1_writes args s ++ Jvm.arrayLocs frame_1_arrays args s ++ Jvm.staticLocs frame_1_statics s) 24 2176 → Post tb e args s (.returned v) u) :
    ArmFor flags0 classFile x code maxLocals ret World_1 tables_1 room_1 Calls_1 rest_1 Pre_1 Post := by
  intro l hfl _ _ p e ha hc hk s m args below hf hA hF happ hP
  obtain ⟨hcalls, hrest, hpre⟩ := hP
  obtain ⟨-, -, -, hnamed, -, -, -, hat⟩ := (Spec.applies_iff hf).mp happ
  obtain ⟨hg, hn⟩ := and_e (Cond.before_iff.mp (show (Jvm.Cond.and given_1 narrow_1).before args s = true from hpre))
  obtain ⟨g0, r0⟩ := and_e hg
  obtain ⟨g1, r1⟩ := and_e r0
  obtain ⟨w0, w1, rfl⟩ : ∃ w0 w1 : Value, args = #[w0, w1] := by
    have hs : args.size = 2 := by simpa [Cond.value, given_1] using g0
    obtain ⟨L⟩ := args
    match L, hs with
    | [w0, w1], _ => exact ⟨w0, w1, rfl⟩
  have hw := fun d (hd : d ∈ tables_1) => atoms_spec (ws := Jvm.Cond.code x code maxLocals ret :: tables_1) hat d (List.mem_cons_of_mem _ hd)
  have hfit : Fit s := fun {y c} hc i hi => by
    obtain ⟨ha, rfl⟩ := Array.getElem?_eq_some_iff.mp hc
    have q := List.all_eq_true.mp ((Array.all_eq_true_iff_forall_mem.mp hF) _ (Array.getElem_mem ha)) i (List.mem_range.mpr hi)
    simpa [Array.getElem?_eq_getElem hi] using q
  obtain ⟨i0, e0⟩ := is_v g1
  obtain rfl : w0 = (.int i0) := Option.some.inj e0
  obtain ⟨i1, e1⟩ := is_v r1
  obtain rfl : w1 = (.int i1) := Option.some.inj e1
  obtain ⟨n, o, h1, h2, h3, _, L, rfl, ⟨rfl, N⟩, hq⟩ := own_law l s _ hw tables_1 i0 i1 s.heap s.heap.size (Nat.le_refl _) p e ha hc hk s m _ below hf ((Spec.applies_iff_loose hf).mp happ).1 ⟨rfl, State.Warmed39.refl s, rfl⟩ trivial
  refine ⟨n, _, h1, h2, h3, hpost _ _ _ _ _ _ ⟨Cond.after_iff.mpr rfl, Cond.after_iff.mpr (eq_i res_at (Term.int_eval (1)) rfl), trivial⟩ ⟨hq.1, hq.2.1, hq.2.2.1, (hq.2.2.2.sift fun y hy => Or.inr (N y hy)).mono (by decide) (by decide)⟩⟩
theorem main_1_1 : Claimed_1_1 := own_comes fun _ _ _ _ _ _ h hF => ⟨h.1, hF⟩
theorem main_1_2 : Claimed_1_2 := own_comes fun _ _ _ _ _ _ h hF => ⟨h.2.1, hF⟩
end Jvm.Pilot.@@N@@
namespace Jvm.Pilot.@@N@@
open Jvm Jvm.ClassFile Sem Op Lib Jvm.Free Jvm.Stand Jvm.Pilot.@@N@@.Jvm.D
/-! MADE BY PROGRAM (witnessworld.py) out of the Statement's table words and the real class files: 17 classes; the members and pool entries that the words name. The judged class is class 1, her method 1. -/
namespace start1
open Jvm.ClassFile
def u (s : String) : CpInfo := .utf8 (stringToUtf16 s)
/-- a pool by its gaps: so many unusable entries, then the entry; so many at the end -/
def gap : Nat → List CpInfo → List CpInfo
  | 0, r => r
  | n + 1, r => .unusable :: gap n r
def poolList (es : List (Nat × CpInfo)) (last : Nat) : List CpInfo := es.foldr (fun e r => gap e.1 (e.2 :: r)) (gap last [])
def pool (es : List (Nat × CpInfo)) (last : Nat) : Array CpInfo := ⟨poolList es last⟩
def fileOf (pool : Array CpInfo) (this : Nat) (attrs : Array Attribute := #[]) (ms : Array MethodInfo := #[]) (fl : Nat := 33) (sup : Nat := 0) (ifs : Array Nat := #[]) (fds : Array FieldInfo := #[]) : ClassFile where
  minorVersion := 0
  majorVersion := 65
  constantPool := pool
  accessFlags := fl
  thisClass := this
  superClass := sup
  interfaces := ifs
  fields := fds
  methods := ms
  attributes := attrs
def plain (name : String) (sup : Option ClassId) : Class where
  name := name
  kind := .ordinary
  loader := none
  accessFlags := 33
  super := sup
  interfaces := #[]
  cf := none
  fields := #[]
  methods := #[]
  instanceTypes := #[]
  staticTypes := #[]
  resolved := #[]
  callSites := []
  init := .initialized
  statics := none
  mirror := none

def pool0 : Array CpInfo := pool [(5, u "<init>"), (0, u "()V"), (1, .class_ 10), (1, u "java/lang/Object")] 113

def k0c0 : Code := { maxStack := 0, maxLocals := 1, code := object_method_1_code, exceptionTable := #[], attributes := #[] }
def k0m0 : Method := { name := "<init>", desc := "()V", sig := { parameters := [], returnType := none }, accessFlags := 1, code := some k0c0 }
/-- java/lang/Object -/
def k0 : Class := { plain "java/lang/Object" none with
  accessFlags := 33
  interfaces := #[]
  cf := some (fileOf pool0 8 #[] #[{ accessFlags := 1, nameIndex := 5, descriptorIndex := 6, attributes := #[] }] 33 0 #[] #[])
  fields := #[]
  methods := #[k0m0]
  instanceTypes := #[]
  staticTypes := #[]
  resolved := Array.replicate 124 none
  statics := none }

def pool1 : Array CpInfo := pool [(2, .class_ 4), (1, u "java/lang/Object"), (0, u "<init>"), (0, u "()V"), (0, .class_ 8), (0, u "com/example/honeybee/honeybee/device/DerReader"), (0, .methodref 7 10), (0, .nameAndType 5 11), (0, u "([B)V"), (0, .methodref 7 13), (0, .nameAndType 14 6), (0, u "nullValue"), (0, .methodref 7 16), (0, .nameAndType 17 18), (0, u "atEnd"), (0, u "()Z"), (0, .methodref 7 20), (0, .nameAndType 21 22), (0, u "objectIdentifier"), (0, u "()[B"), (0, .class_ 24), (0, u "com/example/honeybee/honeybee/device/DerReaderNullValuePinLaw"), (2, u "law"), (0, u "(II)Z")] 5

def k1m0 : Method := { name := "<init>", desc := "()V", sig := { parameters := [], returnType := none }, accessFlags := 1, code := none }
def k1c1 : Code := { maxStack := 4, maxLocals := 10, code := code, exceptionTable := #[], attributes := #[] }
def k1m1 : Method := { name := "law", desc := "(II)Z", sig := { parameters := [.int, .int], returnType := some .boolean }, accessFlags := 9, code := some k1c1 }
/-- com/example/honeybee/honeybee/device/DerReaderNullValuePinLaw -/
def k1 : Class := { plain "com/example/honeybee/honeybee/device/DerReaderNullValuePinLaw" (some 0) with
  accessFlags := 49
  interfaces := #[]
  cf := some (fileOf pool1 23 #[] #[{ accessFlags := 1, nameIndex := 5, descriptorIndex := 6, attributes := #[] }, { accessFlags := 9, nameIndex := 27, descriptorIndex := 28, attributes := #[] }] 49 2 #[] #[])
  fields := #[]
  methods := #[k1m0, k1m1]
  instanceTypes := #[]
  staticTypes := #[]
  resolved := Array.replicate 34 none
  statics := none }

def pool2 : Array CpInfo := pool [(1, .methodref 2 3), (0, .class_ 4), (0, .nameAndType 5 6), (0, u "com/example/honeybee/honeybee/device/DerReader"), (0, u "<init>"), (0, u "([BII)V"), (0, .methodref 8 9), (0, .class_ 10), (0, .nameAndType 5 11), (0, u "java/lang/Object"), (0, u "()V"), (0, .fieldref 2 13), (0, .nameAndType 14 15), (0, u "bytes"), (0, u "[B"), (0, .fieldref 2 17), (0, .nameAndType 18 19), (0, u "position"), (0, u "I"), (0, .fieldref 2 21), (0, .nameAndType 22 19), (0, u "end"), (1, u "SEQUENCE"), (0, .methodref 2 26), (0, .nameAndType 27 28), (0, u "header"), (0, u "(ILjava/lang/String;)I"), (1, u "INTEGER"), (11, .methodref 43 44), (0, .class_ 45), (0, .nameAndType 46 47), (0, u "java/util/Arrays"), (0, u "copyOfRange"), (0, u "([BII)[B"), (2, u "([B)V"), (0, .string 52), (0, u "OBJECT IDENTIFIER"), (4, .string 58), (0, u "NULL"), (7, .long 128), (4, .long 2147483647), (11, u "OBJECT_IDENTIFIER"), (1, u "BIT_STRING"), (2, u "MAX_LENGTH_BYTES"), (8, u "objectIdentifier"), (0, u "()[B"), (1, u "nullValue"), (0, u "atEnd"), (0, u "()Z")] 25

def k2c0 : Code := { maxStack := 4, maxLocals := 2, code := prog_1_method_1_code, exceptionTable := #[], attributes := #[] }
def k2m0 : Method := { name := "<init>", desc := "([B)V", sig := { parameters := [(.array .byte)], returnType := none }, accessFlags := 0, code := some k2c0 }
def k2c1 : Code := { maxStack := 2, maxLocals := 4, code := prog_1_method_2_code, exceptionTable := #[], attributes := #[] }
def k2m1 : Method := { name := "<init>", desc := "([BII)V", sig := { parameters := [(.array .byte), .int, .int], returnType := none }, accessFlags := 2, code := some k2c1 }
def k2c2 : Code := { maxStack := 4, maxLocals := 3, code := prog_1_method_5_code, exceptionTable := #[], attributes := #[] }
def k2m2 : Method := { name := "objectIdentifier", desc := "()[B", sig := { parameters := [], returnType := some (.array .byte) }, accessFlags := 0, code := some k2c2 }
def k2c3 : Code := { maxStack := 3, maxLocals := 1, code := prog_1_method_7_code, exceptionTable := #[], attributes := #[] }
def k2m3 : Method := { name := "nullValue", desc := "()V", sig := { parameters := [], returnType := none }, accessFlags := 0, code := some k2c3 }
def k2c4 : Code := { maxStack := 2, maxLocals := 1, code := prog_1_method_8_code, exceptionTable := #[], attributes := #[] }
def k2m4 : Method := { name := "atEnd", desc := "()Z", sig := { parameters := [], returnType := some .boolean }, accessFlags := 0, code := some k2c4 }
def k2c5 : Code := { maxStack := 5, maxLocals := 9, code := prog_1_method_9_code, exceptionTable := #[], attributes := #[] }
def k2m5 : Method := { name := "header", desc := "(ILjava/lang/String;)I", sig := { parameters := [.int, (.object "java/lang/String")], returnType := some .int }, accessFlags := 2, code := some k2c5 }
/-- com/example/honeybee/honeybee/device/DerReader -/
def k2 : Class := { plain "com/example/honeybee/honeybee/device/DerReader" (some 0) with
  accessFlags := 48
  interfaces := #[]
  cf := some (fileOf pool2 2 #[] #[{ accessFlags := 0, nameIndex := 5, descriptorIndex := 50, attributes := #[] }, { accessFlags := 2, nameIndex := 5, descriptorIndex := 6, attributes := #[] }, { accessFlags := 0, nameIndex := 97, descriptorIndex := 98, attributes := #[] }, { accessFlags := 0, nameIndex := 100, descriptorIndex := 11, attributes := #[] }, { accessFlags := 0, nameIndex := 101, descriptorIndex := 102, attributes := #[] }, { accessFlags := 2, nameIndex := 27, descriptorIndex := 28, attributes := #[] }] 48 8 #[] #[{ accessFlags := 26, nameIndex := 24, descriptorIndex := 19, attributes := #[] }, { accessFlags := 26, nameIndex := 30, descriptorIndex := 19, attributes := #[] }, { accessFlags := 26, nameIndex := 83, descriptorIndex := 19, attributes := #[] }, { accessFlags := 26, nameIndex := 85, descriptorIndex := 19, attributes := #[] }, { accessFlags := 26, nameIndex := 58, descriptorIndex := 19, attributes := #[] }, { accessFlags := 26, nameIndex := 88, descriptorIndex := 19, attributes := #[] }, { accessFlags := 18, nameIndex := 14, descriptorIndex := 15, attributes := #[] }, { accessFlags := 18, nameIndex := 22, descriptorIndex := 19, attributes := #[] }, { accessFlags := 2, nameIndex := 18, descriptorIndex := 19, attributes := #[] }])
  fields := #[{ name := "SEQUENCE", type := .int, accessFlags := 26, slot := 0, constantValue := 0 }, { name := "INTEGER", type := .int, accessFlags := 26, slot := 1, constantValue := 0 }, { name := "OBJECT_IDENTIFIER", type := .int, accessFlags := 26, slot := 2, constantValue := 0 }, { name := "BIT_STRING", type := .int, accessFlags := 26, slot := 3, constantValue := 0 }, { name := "NULL", type := .int, accessFlags := 26, slot := 4, constantValue := 0 }, { name := "MAX_LENGTH_BYTES", type := .int, accessFlags := 26, slot := 5, constantValue := 0 }, { name := "bytes", type := (.array .byte), accessFlags := 18, slot := 0, constantValue := 0 }, { name := "end", type := .int, accessFlags := 18, slot := 1, constantValue := 0 }, { name := "position", type := .int, accessFlags := 2, slot := 2, constantValue := 0 }]
  methods := #[k2m0, k2m1, k2m2, k2m3, k2m4, k2m5]
  instanceTypes := #[(.array .byte), .int, .int]
  staticTypes := #[.int, .int, .int, .int, .int, .int]
  resolved := Array.replicate 128 none
  statics := none }

def pool3 : Array CpInfo := pool [(1, .class_ 2), (0, u "java/io/Serializable"), (0, .class_ 4), (0, u "java/lang/Object")] 2

/-- java/io/Serializable -/
def k3 : Class := { plain "java/io/Serializable" (some 0) with
  accessFlags := 1537
  interfaces := #[]
  cf := some (fileOf pool3 1 #[] #[] 1537 3 #[] #[])
  fields := #[]
  methods := #[]
  instanceTypes := #[]
  staticTypes := #[]
  resolved := Array.replicate 7 none
  statics := none }

def pool4 : Array CpInfo := pool [(1, .class_ 2), (0, u "java/lang/Comparable"), (0, .class_ 4), (0, u "java/lang/Object")] 7

/-- java/lang/Comparable -/
def k4 : Class := { plain "java/lang/Comparable" (some 0) with
  accessFlags := 1537
  interfaces := #[]
  cf := some (fileOf pool4 1 #[] #[] 1537 3 #[] #[])
  fields := #[]
  methods := #[]
  instanceTypes := #[]
  staticTypes := #[]
  resolved := Array.replicate 12 none
  statics := none }

def pool5 : Array CpInfo := pool [(2, .class_ 4), (1, u "java/lang/CharSequence"), (42, .class_ 48), (0, u "java/lang/CharSequence$1CodePointIterator"), (10, .class_ 60), (0, u "java/lang/CharSequence$1CharIterator"), (5, .class_ 67), (0, u "java/lang/Object")] 63

/-- java/lang/CharSequence -/
def k5 : Class := { plain "java/lang/CharSequence" (some 0) with
  accessFlags := 1537
  interfaces := #[]
  cf := some (fileOf pool5 2 #[.nestMembers #[47, 59]] #[] 1537 66 #[] #[])
  fields := #[]
  methods := #[]
  instanceTypes := #[]
  staticTypes := #[]
  resolved := Array.replicate 131 none
  statics := none }

def pool6 : Array CpInfo := pool [(1, .class_ 2), (0, u "java/lang/constant/Constable"), (0, .class_ 4), (0, u "java/lang/Object")] 6

/-- java/lang/constant/Constable -/
def k6 : Class := { plain "java/lang/constant/Constable" (some 0) with
  accessFlags := 1537
  interfaces := #[]
  cf := some (fileOf pool6 1 #[] #[] 1537 3 #[] #[])
  fields := #[]
  methods := #[]
  instanceTypes := #[]
  staticTypes := #[]
  resolved := Array.replicate 11 none
  statics := none }

def pool7 : Array CpInfo := pool [(1, .class_ 2), (0, u "java/lang/constant/ConstantDesc"), (0, .class_ 4), (0, u "java/lang/Object")] 32

/-- java/lang/constant/ConstantDesc -/
def k7 : Class := { plain "java/lang/constant/ConstantDesc" (some 0) with
  accessFlags := 1537
  interfaces := #[]
  cf := some (fileOf pool7 1 #[] #[] 1537 3 #[] #[])
  fields := #[]
  methods := #[]
  instanceTypes := #[]
  staticTypes := #[]
  resolved := Array.replicate 37 none
  statics := none }

def pool8 : Array CpInfo := pool [(2, .class_ 4), (1, u "java/lang/Object"), (0, u "<init>"), (0, u "()V"), (3, .class_ 12), (1, u "java/lang/String"), (0, u "value"), (0, u "[B"), (2, u "coder"), (0, u "B"), (2, u "hash"), (0, u "I"), (2, u "hashIsZero"), (0, u "Z"), (13, u "COMPACT_STRINGS"), (534, .class_ 576), (0, u "java/lang/CharSequence"), (22, u "CASE_INSENSITIVE_ORDER"), (0, u "Ljava/util/Comparator;"), (500, u "serialPersistentFields"), (0, u "[Ljava/io/ObjectStreamField;"), (0, .class_ 1104), (0, u "java/lang/String$CaseInsensitiveComparator"), (1, .class_ 1107), (0, u "java/io/Serializable"), (0, .class_ 1109), (0, u "java/lang/Comparable"), (0, .class_ 1111), (0, u "java/lang/constant/Constable"), (0, .class_ 1113), (0, u "java/lang/constant/ConstantDesc"), (2, u "serialVersionUID"), (0, u "J"), (3, u "REPL"), (0, u "C"), (2, u "LATIN1"), (1, u "UTF16")] 323

def k8m0 : Method := { name := "<init>", desc := "()V", sig := { parameters := [], returnType := none }, accessFlags := 1, code := none }
/-- java/lang/String -/
def k8 : Class := { plain "java/lang/String" (some 0) with
  accessFlags := 49
  interfaces := #[3, 4, 5, 6, 7]
  cf := some (fileOf pool8 10 #[.nestMembers #[1103]] #[{ accessFlags := 1, nameIndex := 5, descriptorIndex := 6, attributes := #[] }] 49 2 #[1106, 1108, 575, 1110, 1112] #[{ accessFlags := 18, nameIndex := 13, descriptorIndex := 14, attributes := #[] }, { accessFlags := 18, nameIndex := 17, descriptorIndex := 18, attributes := #[] }, { accessFlags := 2, nameIndex := 21, descriptorIndex := 22, attributes := #[] }, { accessFlags := 2, nameIndex := 25, descriptorIndex := 26, attributes := #[] }, { accessFlags := 26, nameIndex := 1116, descriptorIndex := 1117, attributes := #[] }, { accessFlags := 24, nameIndex := 40, descriptorIndex := 26, attributes := #[] }, { accessFlags := 26, nameIndex := 1101, descriptorIndex := 1102, attributes := #[] }, { accessFlags := 26, nameIndex := 1121, descriptorIndex := 1122, attributes := #[] }, { accessFlags := 25, nameIndex := 599, descriptorIndex := 600, attributes := #[] }, { accessFlags := 24, nameIndex := 1125, descriptorIndex := 18, attributes := #[] }, { accessFlags := 24, nameIndex := 1127, descriptorIndex := 18, attributes := #[] }])
  fields := #[{ name := "value", type := (.array .byte), accessFlags := 18, slot := 0, constantValue := 0 }, { name := "coder", type := .byte, accessFlags := 18, slot := 1, constantValue := 0 }, { name := "hash", type := .int, accessFlags := 2, slot := 2, constantValue := 0 }, { name := "hashIsZero", type := .boolean, accessFlags := 2, slot := 3, constantValue := 0 }, { name := "serialVersionUID", type := .long, accessFlags := 26, slot := 0, constantValue := 0 }, { name := "COMPACT_STRINGS", type := .boolean, accessFlags := 24, slot := 1, constantValue := 0 }, { name := "serialPersistentFields", type := (.array (.object "java/io/ObjectStreamField")), accessFlags := 26, slot := 2, constantValue := 0 }, { name := "REPL", type := .char, accessFlags := 26, slot := 3, constantValue := 0 }, { name := "CASE_INSENSITIVE_ORDER", type := (.object "java/util/Comparator"), accessFlags := 25, slot := 4, constantValue := 0 }, { name := "LATIN1", type := .byte, accessFlags := 24, slot := 5, constantValue := 0 }, { name := "UTF16", type := .byte, accessFlags := 24, slot := 6, constantValue := 0 }]
  methods := #[k8m0]
  instanceTypes := #[(.array .byte), .byte, .int, .boolean]
  staticTypes := #[.long, .boolean, (.array (.object "java/io/ObjectStreamField")), .char, (.object "java/util/Comparator"), .byte, .byte]
  resolved := Array.replicate 1451 none
  statics := none }

def pool9 : Array CpInfo := pool [(2, .class_ 4), (1, u "java/lang/Object"), (0, u "<init>"), (0, u "()V"), (7, .class_ 16), (1, u "java/util/Arrays"), (57, .class_ 76), (1, u "java/util/Arrays$NaturalOrder"), (36, .class_ 115), (1, u "java/util/Arrays$LegacyMergeSort"), (1, u "Z"), (21, u "copyOfRange"), (10, .methodref 151 152), (0, .class_ 153), (0, .nameAndType 154 155), (0, u "java/lang/System"), (0, u "arraycopy"), (0, u "(Ljava/lang/Object;ILjava/lang/Object;II)V"), (148, .methodref 305 306), (0, .class_ 307), (0, .nameAndType 308 309), (0, u "java/lang/Math"), (0, u "min"), (0, u "(II)I"), (29, .methodref 14 340), (0, .nameAndType 341 342), (0, u "copyOfRangeByte"), (0, u "([BII)[B"), (0, .methodref 14 344), (0, .nameAndType 345 346), (0, u "checkLength"), (0, u "(II)V"), (28, .class_ 376), (0, u "java/util/Arrays$ArrayList"), (68, u "$assertionsDisabled"), (269, u "MIN_ARRAY_SORT_GRAN"), (0, u "I"), (2, u "INSERTIONSORT_THRESHOLD"), (255, .class_ 976), (0, u "java/util/Arrays$ArrayItr")] 52

def k9m0 : Method := { name := "<init>", desc := "()V", sig := { parameters := [], returnType := none }, accessFlags := 2, code := none }
def k9c1 : Code := { maxStack := 4, maxLocals := 2, code := jdk_65_method_131_code, exceptionTable := #[], attributes := #[] }
def k9m1 : Method := { name := "checkLength", desc := "(II)V", sig := { parameters := [.int, .int], returnType := none }, accessFlags := 10, code := some k9c1 }
def k9c2 : Code := { maxStack := 3, maxLocals := 3, code := jdk_65_method_132_code, exceptionTable := #[], attributes := #[] }
def k9m2 : Method := { name := "copyOfRange", desc := "([BII)[B", sig := { parameters := [(.array .byte), .int, .int], returnType := some (.array .byte) }, accessFlags := 9, code := some k9c2 }
def k9c3 : Code := { maxStack := 6, maxLocals := 5, code := jdk_65_method_133_code, exceptionTable := #[], attributes := #[] }
def k9m3 : Method := { name := "copyOfRangeByte", desc := "([BII)[B", sig := { parameters := [(.array .byte), .int, .int], returnType := some (.array .byte) }, accessFlags := 10, code := some k9c3 }
/-- java/util/Arrays -/
def k9 : Class := { plain "java/util/Arrays" (some 0) with
  accessFlags := 49
  interfaces := #[]
  cf := some (fileOf pool9 14 #[.nestMembers #[975, 375, 113, 74]] #[{ accessFlags := 2, nameIndex := 5, descriptorIndex := 6, attributes := #[] }, { accessFlags := 10, nameIndex := 345, descriptorIndex := 346, attributes := #[] }, { accessFlags := 9, nameIndex := 139, descriptorIndex := 342, attributes := #[] }, { accessFlags := 10, nameIndex := 341, descriptorIndex := 342, attributes := #[] }] 49 2 #[] #[{ accessFlags := 26, nameIndex := 715, descriptorIndex := 716, attributes := #[] }, { accessFlags := 26, nameIndex := 719, descriptorIndex := 716, attributes := #[] }, { accessFlags := 4120, nameIndex := 445, descriptorIndex := 117, attributes := #[] }])
  fields := #[{ name := "MIN_ARRAY_SORT_GRAN", type := .int, accessFlags := 26, slot := 0, constantValue := 0 }, { name := "INSERTIONSORT_THRESHOLD", type := .int, accessFlags := 26, slot := 1, constantValue := 0 }, { name := "$assertionsDisabled", type := .boolean, accessFlags := 4120, slot := 2, constantValue := 0 }]
  methods := #[k9m0, k9m1, k9m2, k9m3]
  instanceTypes := #[]
  staticTypes := #[.int, .int, .boolean]
  resolved := Array.replicate 1029 none
  statics := none }

def pool10 : Array CpInfo := pool [(1, .class_ 2), (0, u "java/lang/Math"), (1, .class_ 6), (1, u "java/lang/Object"), (0, u "<init>"), (0, u "()V"), (89, .class_ 100), (1, u "java/lang/Math$RandomNumberGeneratorHolder"), (71, u "negativeZeroFloatBits"), (0, u "J"), (2, u "negativeZeroDoubleBits"), (24, u "min"), (43, u "$assertionsDisabled"), (0, u "Z"), (88, u "(II)I"), (2, u "twoToTheDoubleScaleDown"), (0, u "D"), (4, u "twoToTheDoubleScaleUp"), (9, u "E"), (3, u "PI"), (2, u "TAU"), (2, u "DEGREES_TO_RADIANS"), (0, u "RADIANS_TO_DEGREES")] 94

def k10m0 : Method := { name := "<init>", desc := "()V", sig := { parameters := [], returnType := none }, accessFlags := 2, code := none }
def k10c1 : Code := { maxStack := 2, maxLocals := 2, code := jdk_29_method_69_code, exceptionTable := #[], attributes := #[] }
def k10m1 : Method := { name := "min", desc := "(II)I", sig := { parameters := [.int, .int], returnType := some .int }, accessFlags := 9, code := some k10c1 }
/-- java/lang/Math -/
def k10 : Class := { plain "java/lang/Math" (some 0) with
  accessFlags := 49
  interfaces := #[]
  cf := some (fileOf pool10 1 #[.nestMembers #[98]] #[{ accessFlags := 2, nameIndex := 7, descriptorIndex := 8, attributes := #[] }, { accessFlags := 9, nameIndex := 201, descriptorIndex := 335, attributes := #[] }] 49 4 #[] #[{ accessFlags := 25, nameIndex := 354, descriptorIndex := 339, attributes := #[] }, { accessFlags := 25, nameIndex := 358, descriptorIndex := 339, attributes := #[] }, { accessFlags := 25, nameIndex := 361, descriptorIndex := 339, attributes := #[] }, { accessFlags := 26, nameIndex := 364, descriptorIndex := 339, attributes := #[] }, { accessFlags := 26, nameIndex := 365, descriptorIndex := 339, attributes := #[] }, { accessFlags := 26, nameIndex := 172, descriptorIndex := 173, attributes := #[] }, { accessFlags := 26, nameIndex := 176, descriptorIndex := 173, attributes := #[] }, { accessFlags := 8, nameIndex := 344, descriptorIndex := 339, attributes := #[] }, { accessFlags := 8, nameIndex := 338, descriptorIndex := 339, attributes := #[] }, { accessFlags := 4120, nameIndex := 245, descriptorIndex := 246, attributes := #[] }])
  fields := #[{ name := "E", type := .double, accessFlags := 25, slot := 0, constantValue := 0 }, { name := "PI", type := .double, accessFlags := 25, slot := 1, constantValue := 0 }, { name := "TAU", type := .double, accessFlags := 25, slot := 2, constantValue := 0 }, { name := "DEGREES_TO_RADIANS", type := .double, accessFlags := 26, slot := 3, constantValue := 0 }, { name := "RADIANS_TO_DEGREES", type := .double, accessFlags := 26, slot := 4, constantValue := 0 }, { name := "negativeZeroFloatBits", type := .long, accessFlags := 26, slot := 5, constantValue := 0 }, { name := "negativeZeroDoubleBits", type := .long, accessFlags := 26, slot := 6, constantValue := 0 }, { name := "twoToTheDoubleScaleUp", type := .double, accessFlags := 8, slot := 7, constantValue := 0 }, { name := "twoToTheDoubleScaleDown", type := .double, accessFlags := 8, slot := 8, constantValue := 0 }, { name := "$assertionsDisabled", type := .boolean, accessFlags := 4120, slot := 9, constantValue := 0 }]
  methods := #[k10m0, k10m1]
  instanceTypes := #[]
  staticTypes := #[.double, .double, .double, .double, .double, .long, .long, .double, .double, .boolean]
  resolved := Array.replicate 460 none
  statics := none }

def pool11 : Array CpInfo := pool [(2, .class_ 4), (1, u "java/lang/Object"), (0, u "<init>"), (0, u "()V"), (1, .class_ 10), (1, u "java/lang/System"), (0, u "allowSecurityManager"), (0, u "I"), (16, u "cons"), (0, u "Ljava/io/Console;"), (77, .class_ 110), (1, u "java/lang/System$CallersHolder"), (43, u "initialErrStream"), (0, u "Ljava/io/PrintStream;"), (19, u "security"), (0, u "Ljava/lang/SecurityManager;"), (31, .class_ 209), (0, u "java/lang/System$1"), (7, u "props"), (0, u "Ljava/util/Properties;"), (2, u "lineSeparator"), (0, u "Ljava/lang/String;"), (96, .class_ 321), (1, u "java/lang/System$LoggerFinder"), (5, .class_ 328), (0, u "java/lang/System$Logger"), (67, u "err"), (2, u "out"), (91, u "notSupportedJnuEncoding"), (15, u "in"), (17, u "initialIn"), (0, u "Ljava/io/InputStream;"), (35, u "bootLayer"), (0, u "Ljava/lang/ModuleLayer;"), (99, .class_ 664), (0, u "java/lang/System$2"), (9, u "NEVER"), (2, u "MAYBE"), (49, u "arraycopy"), (0, u "(Ljava/lang/Object;ILjava/lang/Object;II)V"), (72, .class_ 802), (0, u "java/lang/System$Logger$Level")] 31

def k11m0 : Method := { name := "<init>", desc := "()V", sig := { parameters := [], returnType := none }, accessFlags := 2, code := none }
def k11m1 : Method := { name := "arraycopy", desc := "(Ljava/lang/Object;ILjava/lang/Object;II)V", sig := { parameters := [(.object "java/lang/Object"), .int, (.object "java/lang/Object"), .int, .int], returnType := none }, accessFlags := 265, code := none }
/-- java/lang/System -/
def k11 : Class := { plain "java/lang/System" (some 0) with
  accessFlags := 49
  interfaces := #[]
  cf := some (fileOf pool11 8 #[.nestMembers #[319, 327, 801, 108, 663, 208]] #[{ accessFlags := 2, nameIndex := 5, descriptorIndex := 6, attributes := #[] }, { accessFlags := 265, nameIndex := 727, descriptorIndex := 728, attributes := #[] }] 49 2 #[] #[{ accessFlags := 25, nameIndex := 507, descriptorIndex := 526, attributes := #[] }, { accessFlags := 25, nameIndex := 399, descriptorIndex := 155, attributes := #[] }, { accessFlags := 25, nameIndex := 396, descriptorIndex := 155, attributes := #[] }, { accessFlags := 10, nameIndex := 525, descriptorIndex := 526, attributes := #[] }, { accessFlags := 26, nameIndex := 674, descriptorIndex := 12, attributes := #[] }, { accessFlags := 26, nameIndex := 677, descriptorIndex := 12, attributes := #[] }, { accessFlags := 10, nameIndex := 11, descriptorIndex := 12, attributes := #[] }, { accessFlags := 74, nameIndex := 175, descriptorIndex := 176, attributes := #[] }, { accessFlags := 10, nameIndex := 491, descriptorIndex := 222, attributes := #[] }, { accessFlags := 74, nameIndex := 29, descriptorIndex := 30, attributes := #[] }, { accessFlags := 74, nameIndex := 154, descriptorIndex := 155, attributes := #[] }, { accessFlags := 10, nameIndex := 217, descriptorIndex := 218, attributes := #[] }, { accessFlags := 10, nameIndex := 221, descriptorIndex := 222, attributes := #[] }, { accessFlags := 8, nameIndex := 562, descriptorIndex := 563, attributes := #[] }])
  fields := #[{ name := "in", type := (.object "java/io/InputStream"), accessFlags := 25, slot := 0, constantValue := 0 }, { name := "out", type := (.object "java/io/PrintStream"), accessFlags := 25, slot := 1, constantValue := 0 }, { name := "err", type := (.object "java/io/PrintStream"), accessFlags := 25, slot := 2, constantValue := 0 }, { name := "initialIn", type := (.object "java/io/InputStream"), accessFlags := 10, slot := 3, constantValue := 0 }, { name := "NEVER", type := .int, accessFlags := 26, slot := 4, constantValue := 0 }, { name := "MAYBE", type := .int, accessFlags := 26, slot := 5, constantValue := 0 }, { name := "allowSecurityManager", type := .int, accessFlags := 10, slot := 6, constantValue := 0 }, { name := "security", type := (.object "java/lang/SecurityManager"), accessFlags := 74, slot := 7, constantValue := 0 }, { name := "notSupportedJnuEncoding", type := (.object "java/lang/String"), accessFlags := 10, slot := 8, constantValue := 0 }, { name := "cons", type := (.object "java/io/Console"), accessFlags := 74, slot := 9, constantValue := 0 }, { name := "initialErrStream", type := (.object "java/io/PrintStream"), accessFlags := 74, slot := 10, constantValue := 0 }, { name := "props", type := (.object "java/util/Properties"), accessFlags := 10, slot := 11, constantValue := 0 }, { name := "lineSeparator", type := (.object "java/lang/String"), accessFlags := 10, slot := 12, constantValue := 0 }, { name := "bootLayer", type := (.object "java/lang/ModuleLayer"), accessFlags := 8, slot := 13, constantValue := 0 }]
  methods := #[k11m0, k11m1]
  instanceTypes := #[]
  staticTypes := #[(.object "java/io/InputStream"), (.object "java/io/PrintStream"), (.object "java/io/PrintStream"), (.object "java/io/InputStream"), .int, .int, .int, (.object "java/lang/SecurityManager"), (.object "java/lang/String"), (.object "java/io/Console"), (.object "java/io/PrintStream"), (.object "java/util/Properties"), (.object "java/lang/String"), (.object "java/lang/ModuleLayer")]
  resolved := Array.replicate 834 none
  statics := none }

def pool12 : Array CpInfo := pool [(1, u "java/lang/Cloneable"), (0, .class_ 1), (0, u "java/lang/Object"), (0, .class_ 3)] 3

/-- java/lang/Cloneable -/
def k12 : Class := { plain "java/lang/Cloneable" (some 0) with
  accessFlags := 1537
  interfaces := #[]
  cf := some (fileOf pool12 2 #[] #[] 1537 4 #[] #[])
  fields := #[]
  methods := #[]
  instanceTypes := #[]
  staticTypes := #[]
  resolved := Array.replicate 8 none
  statics := none }

/-- the primitive byte -/
def k13 : Class := { plain "byte" none with kind := .primitive 'B', accessFlags := 0x411 }
/-- [B -/
def k14 : Class := { plain "[B" (some 0) with kind := .array 13 .byte, interfaces := #[12, 3], accessFlags := 1041 }

/-- the primitive int -/
def k15 : Class := { plain "int" none with kind := .primitive 'I', accessFlags := 0x411 }
/-- [I -/
def k16 : Class := { plain "[I" (some 0) with kind := .array 15 .int, interfaces := #[12, 3], accessFlags := 1041 }

def heap : Heap := #[]
def classes : Array Class := #[k0, k1, k2, k3, k4, k5, k6, k7, k8, k9, k10, k11, k12, k13, k14, k15, k16]
def interned : List (Array UInt16 × Addr) := []
def slotsUsed : Nat := 0
def theMethod : MethodId := ⟨1, 1⟩
def args0 : Array Value := #[.int 5, .int 300]
def aboutOver (below : List Frame) : State where
  vm := { classes := classes, interned := interned.toArray }
  heap := heap
  slotsUsed := slotsUsed
  threads := #[{ frames := .invoking theMethod args0 :: below }]
def below0 : List Frame := [.native { method := ⟨0, 0⟩, args := #[] }]
def about1 : State := aboutOver below0
def p0 : Program := .bare "" "" ""
def e0 : Env := launch0.env 0 0 0
theorem w_frames : about1.frames = Frame.invoking theMethod args0 :: below0 := rfl
set_option maxRecDepth 65536 in
theorem w_args : argsFit about1.vm theMethod args0 = true := by decide +kernel
set_option maxRecDepth 65536 in
theorem w_heap : heapFits about1 = true := by decide +kernel
set_option maxRecDepth 65536 in
theorem w_runnable : about1.curStatus? = some .runnable := by decide +kernel
set_option maxRecDepth 65536 in
theorem w_alone : about1.alone = true := by decide +kernel
set_option maxRecDepth 65536 in
theorem w_named : about1.methodNamed? x = some theMethod := by decide +kernel
set_option maxRecDepth 65536 in
theorem w_hears : about1.hears theMethod below0 = true := by decide +kernel
set_option maxRecDepth 65536 in
theorem w_ripe : about1.ripe theMethod args0 below0 = true := by decide +kernel
theorem w_running : about1.status = .running := rfl
set_option maxRecDepth 65536 in
theorem w_room : about1.hasRoom e0.platform room_1 = true :=
  launch0.hasRoom_least _ room_1 (by decide +kernel) (by decide +kernel) (by decide +kernel) (by decide +kernel) (by decide +kernel) (by decide +kernel)
theorem allAtoms_all (ts : List Jvm.Cond) (a : Array Jvm.Value) (st : Jvm.State) : (allAtoms ts).before a st = ts.all (fun c => c.before a st) := by
  induction ts with
  | nil => rfl
  | cons c t ih =>
    show (Jvm.Cond.and c (allAtoms t)).before a st = _
    rw [Jvm.Cond.before_and, ih, List.all_cons]
def words1 : List Jvm.Cond := Jvm.Cond.code x code maxLocals ret :: tables_1
/-- a 'code' word, met by the world's own term for the bytes: nothing is compared byte by byte -/
theorem code_word {y : MethodName} {bytes : ByteArray} {mx : Nat} {rt : Option FieldType} {a : Array Value} {s : State} {m : MethodId} {meth : Method} {c : Code} (h1 : s.methodNamed? y = some m) (h2 : s.vm.method? m = some meth) (h3 : meth.code = some c) (h4 : c.code = bytes)
    (h5 : (c.maxLocals == mx && c.exceptionTable.isEmpty && decide (c.maxStack ≤ mostOperands) && decide (meth.sig.returnType = rt) && !meth.locks && decide (parseMethodDescriptor y.desc = some meth.sig)) = true) : (Jvm.Cond.code y bytes mx rt).before a s = true := by
  simp only [Bool.and_eq_true, beq_iff_eq, Bool.not_eq_true', decide_eq_true_eq] at h5
  obtain ⟨⟨⟨⟨⟨g1, g2⟩, g3⟩, g4⟩, g5⟩, g6⟩ := h5
  simp [Cond.before, Cond.holds, Cond.value, h1, h2, h3, h4, g1, g2, g3, g4, g5, g6]
def isCode : Jvm.Cond → Bool
  | .code _ _ _ _ => true
  | _ => false
theorem all_split {L : List Jvm.Cond} {P : Jvm.Cond → Bool} (h1 : L.all (fun c => isCode c || P c) = true) (h2 : ∀ c ∈ L.filter isCode, P c = true) : L.all P = true := by
  refine List.all_eq_true.mpr fun c hc => ?_
  have h := List.all_eq_true.mp h1 c hc
  rcases Bool.eq_false_or_eq_true (isCode c) with hi | hi
  · exact h2 c (List.mem_filter.mpr ⟨hc, hi⟩)
  · simpa [hi] using h
set_option maxRecDepth 65536 in
theorem w_c0 : (Jvm.Cond.code x code maxLocals ret).before args0 about1 = true := code_word (m := ⟨1, 1⟩) (meth := k1m1) (c := k1c1) (by decide +kernel) rfl rfl rfl (by decide +kernel)
set_option maxRecDepth 65536 in
theorem w_c1 : (Jvm.Cond.code ({ cls := "com/example/honeybee/honeybee/device/DerReader", name := "<init>", desc := "([B)V" } : Jvm.MethodName) prog_1_method_1_code (2 : Nat) (Option.none : Option Jvm.ClassFile.FieldType)).before args0 about1 = true := code_word (m := ⟨2, 0⟩) (meth := k2m0) (c := k2c0) (by decide +kernel) rfl rfl rfl (by decide +kernel)
set_option maxRecDepth 65536 in
theorem w_c2 : (Jvm.Cond.code ({ cls := "com/example/honeybee/honeybee/device/DerReader", name := "<init>", desc := "([BII)V" } : Jvm.MethodName) prog_1_method_2_code (4 : Nat) (Option.none : Option Jvm.ClassFile.FieldType)).before args0 about1 = true := code_word (m := ⟨2, 1⟩) (meth := k2m1) (c := k2c1) (by decide +kernel) rfl rfl rfl (by decide +kernel)
set_option maxRecDepth 65536 in
theorem w_c3 : (Jvm.Cond.code ({ cls := "java/lang/Object", name := "<init>", desc := "()V" } : Jvm.MethodName) object_method_1_code (1 : Nat) (Option.none : Option Jvm.ClassFile.FieldType)).before args0 about1 = true := code_word (m := ⟨0, 0⟩) (meth := k0m0) (c := k0c0) (by decide +kernel) rfl rfl rfl (by decide +kernel)
set_option maxRecDepth 65536 in
theorem w_c4 : (Jvm.Cond.code ({ cls := "com/example/honeybee/honeybee/device/DerReader", name := "nullValue", desc := "()V" } : Jvm.MethodName) prog_1_method_7_code (1 : Nat) (Option.none : Option Jvm.ClassFile.FieldType)).before args0 about1 = true := code_word (m := ⟨2, 3⟩) (meth := k2m3) (c := k2c3) (by decide +kernel) rfl rfl rfl (by decide +kernel)
set_option maxRecDepth 65536 in
theorem w_c5 : (Jvm.Cond.code ({ cls := "com/example/honeybee/honeybee/device/DerReader", name := "header", desc := "(ILjava/lang/String;)I" } : Jvm.MethodName) prog_1_method_9_code (9 : Nat) (Option.some Jvm.ClassFile.FieldType.int)).before args0 about1 = true := code_word (m := ⟨2, 5⟩) (meth := k2m5) (c := k2c5) (by decide +kernel) rfl rfl rfl (by decide +kernel)
set_option maxRecDepth 65536 in
theorem w_c6 : (Jvm.Cond.code ({ cls := "com/example/honeybee/honeybee/device/DerReader", name := "atEnd", desc := "()Z" } : Jvm.MethodName) prog_1_method_8_code (1 : Nat) (Option.some Jvm.ClassFile.FieldType.boolean)).before args0 about1 = true := code_word (m := ⟨2, 4⟩) (meth := k2m4) (c := k2c4) (by decide +kernel) rfl rfl rfl (by decide +kernel)
set_option maxRecDepth 65536 in
theorem w_c7 : (Jvm.Cond.code ({ cls := "com/example/honeybee/honeybee/device/DerReader", name := "objectIdentifier", desc := "()[B" } : Jvm.MethodName) prog_1_method_5_code (3 : Nat) (Option.some (Jvm.ClassFile.FieldType.array Jvm.ClassFile.FieldType.byte))).before args0 about1 = true := code_word (m := ⟨2, 2⟩) (meth := k2m2) (c := k2c2) (by decide +kernel) rfl rfl rfl (by decide +kernel)
set_option maxRecDepth 65536 in
theorem w_c8 : (Jvm.Cond.code ({ cls := "java/util/Arrays", name := "copyOfRange", desc := "([BII)[B" } : Jvm.MethodName) jdk_65_method_132_code (3 : Nat) (Option.some (Jvm.ClassFile.FieldType.array Jvm.ClassFile.FieldType.byte))).before args0 about1 = true := code_word (m := ⟨9, 2⟩) (meth := k9m2) (c := k9c2) (by decide +kernel) rfl rfl rfl (by decide +kernel)
set_option maxRecDepth 65536 in
theorem w_c9 : (Jvm.Cond.code ({ cls := "java/util/Arrays", name := "copyOfRangeByte", desc := "([BII)[B" } : Jvm.MethodName) jdk_65_method_133_code (5 : Nat) (Option.some (Jvm.ClassFile.FieldType.array Jvm.ClassFile.FieldType.byte))).before args0 about1 = true := code_word (m := ⟨9, 3⟩) (meth := k9m3) (c := k9c3) (by decide +kernel) rfl rfl rfl (by decide +kernel)
set_option maxRecDepth 65536 in
theorem w_c10 : (Jvm.Cond.code ({ cls := "java/util/Arrays", name := "checkLength", desc := "(II)V" } : Jvm.MethodName) jdk_65_method_131_code (2 : Nat) (Option.none : Option Jvm.ClassFile.FieldType)).before args0 about1 = true := code_word (m := ⟨9, 1⟩) (meth := k9m1) (c := k9c1) (by decide +kernel) rfl rfl rfl (by decide +kernel)
set_option maxRecDepth 65536 in
theorem w_c11 : (Jvm.Cond.code ({ cls := "java/lang/Math", name := "min", desc := "(II)I" } : Jvm.MethodName) jdk_29_method_69_code (2 : Nat) (Option.some Jvm.ClassFile.FieldType.int)).before args0 about1 = true := code_word (m := ⟨10, 1⟩) (meth := k10m1) (c := k10c1) (by decide +kernel) rfl rfl rfl (by decide +kernel)
def codes1 : List Jvm.Cond := [Jvm.Cond.code x code maxLocals ret, Jvm.Cond.code ({ cls := "com/example/honeybee/honeybee/device/DerReader", name := "<init>", desc := "([B)V" } : Jvm.MethodName) prog_1_method_1_code (2 : Nat) (Option.none : Option Jvm.ClassFile.FieldType), Jvm.Cond.code ({ cls := "com/example/honeybee/honeybee/device/DerReader", name := "<init>", desc := "([BII)V" } : Jvm.MethodName) prog_1_method_2_code (4 : Nat) (Option.none : Option Jvm.ClassFile.FieldType), Jvm.Cond.code ({ cls := "java/lang/Object", name := "<init>", desc := "()V" } : Jvm.MethodName) object_method_1_code (1 : Nat) (Option.none : Option Jvm.ClassFile.FieldType), Jvm.Cond.code ({ cls := "com/example/honeybee/honeybee/device/DerReader", name := "nullValue", desc := "()V" } : Jvm.MethodName) prog_1_method_7_code (1 : Nat) (Option.none : Option Jvm.ClassFile.FieldType), Jvm.Cond.code ({ cls := "com/example/honeybee/honeybee/device/DerReader", name := "header", desc := "(ILjava/lang/String;)I" } : Jvm.MethodName) prog_1_method_9_code (9 : Nat) (Option.some Jvm.ClassFile.FieldType.int), Jvm.Cond.code ({ cls := "com/example/honeybee/honeybee/device/DerReader", name := "atEnd", desc := "()Z" } : Jvm.MethodName) prog_1_method_8_code (1 : Nat) (Option.some Jvm.ClassFile.FieldType.boolean), Jvm.Cond.code ({ cls := "com/example/honeybee/honeybee/device/DerReader", name := "objectIdentifier", desc := "()[B" } : Jvm.MethodName) prog_1_method_5_code (3 : Nat) (Option.some (Jvm.ClassFile.FieldType.array Jvm.ClassFile.FieldType.byte)), Jvm.Cond.code ({ cls := "java/util/Arrays", name := "copyOfRange", desc := "([BII)[B" } : Jvm.MethodName) jdk_65_method_132_code (3 : Nat) (Option.some (Jvm.ClassFile.FieldType.array Jvm.ClassFile.FieldType.byte)), Jvm.Cond.code ({ cls := "java/util/Arrays", name := "copyOfRangeByte", desc := "([BII)[B" } : Jvm.MethodName) jdk_65_method_133_code (5 : Nat) (Option.some (Jvm.ClassFile.FieldType.array Jvm.ClassFile.FieldType.byte)), Jvm.Cond.code ({ cls := "java/util/Arrays", name := "checkLength", desc := "(II)V" } : Jvm.MethodName) jdk_65_method_131_code (2 : Nat) (Option.none : Option Jvm.ClassFile.FieldType), Jvm.Cond.code ({ cls := "java/lang/Math", name := "min", desc := "(II)I" } : Jvm.MethodName) jdk_29_method_69_code (2 : Nat) (Option.some Jvm.ClassFile.FieldType.int)]
set_option maxRecDepth 65536 in
theorem codes_eq : words1.filter isCode = codes1 := rfl
theorem w_codes : ∀ c ∈ words1.filter isCode, c.before args0 about1 = true := by
  rw [codes_eq]
  intro c hc
  simp only [codes1, List.mem_cons, List.not_mem_nil, or_false] at hc
  rcases hc with rfl | rfl | rfl | rfl | rfl | rfl | rfl | rfl | rfl | rfl | rfl | rfl
  · exact w_c0
  · exact w_c1
  · exact w_c2
  · exact w_c3
  · exact w_c4
  · exact w_c5
  · exact w_c6
  · exact w_c7
  · exact w_c8
  · exact w_c9
  · exact w_c10
  · exact w_c11
set_option maxRecDepth 65536 in
theorem w_t1 : (words1.take 24).all (fun c => isCode c || c.before args0 about1) = true := by decide +kernel
set_option maxRecDepth 65536 in
theorem w_t2 : ((words1.drop 24).take 24).all (fun c => isCode c || c.before args0 about1) = true := by decide +kernel
set_option maxRecDepth 65536 in
theorem w_t3 : ((words1.drop 24).drop 24).all (fun c => isCode c || c.before args0 about1) = true := by decide +kernel
theorem w_tables : (allAtoms (Jvm.Cond.code x code maxLocals ret :: tables_1)).before args0 about1 = true := by
  rw [allAtoms_all]
  show words1.all (fun c => c.before args0 about1) = true
  refine all_split ?_ w_codes
  rw [← List.take_append_drop 24 words1, List.all_append, w_t1, ← List.take_append_drop 24 (words1.drop 24), List.all_append, w_t2, w_t3]
  rfl
set_option maxRecDepth 65536 in
theorem w_case : (Jvm.Cond.and given_1 narrow_1).before args0 about1 = true := by decide +kernel
theorem w_applies : (headSpec (Jvm.Cond.code x code maxLocals ret :: tables_1) room_1).applies x e0.platform about1 = true :=
  (Spec.applies_iff w_frames).mpr ⟨w_running, w_runnable, w_alone, w_named, w_hears, w_ripe, w_room, w_tables⟩
theorem atStart : AtStart classFile x code maxLocals ret World_1 tables_1 room_1 Calls_1 rest_1 Pre_1 launch0 p0 e0 about1 theMethod args0 below0 :=
  ⟨lists_1, trivial, launch0.admits_env _ _ _, launch0.least_env, fairChoices_fair.cas, fairChoices_fair.clock, w_frames, w_args, w_heap, w_applies, trivial, trivial, w_case⟩
end start1
theorem witness_1 : WitnessClaimed_1 := ⟨start1.p0, start1.e0, start1.about1, start1.theMethod, start1.args0, start1.below0, start1.atStart⟩
end Jvm.Pilot.@@N@@
