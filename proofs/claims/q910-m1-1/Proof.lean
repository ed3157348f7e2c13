import JvmDerived
import JvmDerived.Pilot.@@N@@Statement
import JvmDerived.Pilot.@@N@@Code
set_option linter.unusedVariables false
set_option linter.unusedSimpArgs false
namespace Jvm.Pilot.@@N@@
open Jvm Jvm.ClassFile Sem Op Lib Jvm.Free Jvm.Stand Jvm.LawKit Jvm.RoadKit Bundle Jvm.Pilot.@@N@@.Jvm.D
/-! own layer: the walk goes forward; own_G S: from S the body ends as F says -/
def own_G (tb : Tables) (e : Env) (below : List Frame) (F : Outcome → State → Prop) (S : State) : Prop :=
  ∃ s₂ o, Steps tb e below S s₂ ∧ s₂.status = .running ∧ Ended s₂ below o ∧ F o s₂
theorem own_go {tb : Tables} {e : Env} {below : List Frame} {F : Outcome → State → Prop} {A B : State} (st : ∀ t, Steps tb e below B t → Steps tb e below A t) (h : own_G tb e below F B) : own_G tb e below F A := by
  obtain ⟨t, o, h1, h2⟩ := h
  exact ⟨t, o, st t h1, h2⟩
theorem own_tr {tb : Tables} {e : Env} {below : List Frame} {F : Outcome → State → Prop} {A B : State} (st : Steps tb e below A B) (h : own_G tb e below F B) : own_G tb e below F A := own_go (fun _ k => st.trans k) h
theorem own_b {n k : Nat} (h : Nat.ble n k = true) : n ≤ k := Nat.le_of_ble_eq_true h
def own_yes {α : Type} [LT α] : ClassFile.Cond → α → α → Prop
  | .eq, x, y => x = y
  | .ne, x, y => ¬ x = y
  | .lt, x, y => x < y
  | .ge, x, y => ¬ x < y
  | .gt, x, y => y < x
  | .le, x, y => ¬ y < x
def own_no {α : Type} [LT α] : ClassFile.Cond → α → α → Prop
  | .eq, x, y => ¬ x = y
  | .ne, x, y => x = y
  | .lt, x, y => ¬ x < y
  | .ge, x, y => x < y
  | .gt, x, y => ¬ y < x
  | .le, x, y => y < x
theorem own_hy {cd : ClassFile.Cond} {x y : Int32} (h : own_yes cd x y) : if_icmp.holds cd x y = true := by
  cases cd
  · exact (teq h).1
  · exact (feq h).2
  · exact (tlt h).1
  · exact (flt h).2.1
  · exact (tlt h).2.2.1
  · exact (flt h).2.2.2
theorem own_hn {cd : ClassFile.Cond} {x y : Int32} (h : own_no cd x y) : if_icmp.holds cd x y = false := by
  cases cd
  · exact (feq h).1
  · exact (teq h).2
  · exact (flt h).1
  · exact (tlt h).2.1
  · exact (flt h).2.2.1
  · exact (tlt h).2.2.2
theorem own_yn {cd : ClassFile.Cond} {x y : Int32} : own_yes cd x y ∨ own_no cd x y := by
  cases cd
  · exact Classical.em _
  · exact (Classical.em _).symm
  · exact Classical.em _
  · exact (Classical.em _).symm
  · exact Classical.em _
  · exact (Classical.em _).symm
theorem own_ynL {cd : ClassFile.Cond} {x y : Int64} : own_yes cd x y ∨ own_no cd x y := by
  cases cd
  · exact Classical.em _
  · exact (Classical.em _).symm
  · exact Classical.em _
  · exact (Classical.em _).symm
  · exact Classical.em _
  · exact (Classical.em _).symm
theorem own_hyL {cd : ClassFile.Cond} {x y : Int64} (h : own_yes cd x y) : ifCond.holds cd (lcmpW x y) = true := by
  rw [if0]
  refine own_hy ?_
  cases cd
  · exact (lw_eq x y).mpr h
  · exact fun q => h ((lw_eq x y).mp q)
  · exact (lw_lt x y).mpr h
  · exact fun q => h ((lw_lt x y).mp q)
  · exact (lw_gt x y).mpr h
  · exact fun q => h ((lw_gt x y).mp q)
theorem own_hnL {cd : ClassFile.Cond} {x y : Int64} (h : own_no cd x y) : ifCond.holds cd (lcmpW x y) = false := by
  rw [if0]
  refine own_hn ?_
  cases cd
  · exact fun q => h ((lw_eq x y).mp q)
  · exact (lw_eq x y).mpr h
  · exact fun q => h ((lw_lt x y).mp q)
  · exact (lw_lt x y).mpr h
  · exact fun q => h ((lw_gt x y).mp q)
  · exact (lw_gt x y).mpr h
section Own
variable {p : Program} {l : Launch} {e : Env} {R : Room} {s : State} {m : MethodId} {args : Array Value} {below : List Frame} {meth : Method} {c : Code} {T : State} {locs : List Loc} {cells slots : Nat} {F : Outcome → State → Prop}
theorem own_abs {n0 : Nat} (X : Stand p l e R s m args below meth c T locs cells slots) (N : Fr n0 locs) : ∃ L, Stand p l e R s m args below meth c T L cells slots ∧ Fr n0 L := ⟨locs, X, N⟩
theorem own_absC {n0 K K' : Nat} {L Lc : List Loc} {k n : Nat} (X : Stand p l e R s m args below meth c T L k n) (hl : L = locs ++ Lc) (hk : k = K) (hn : n = K') (N : Fr n0 locs) (N' : Fr n0 Lc) : ∃ L, Stand p l e R s m args below meth c T L K K' ∧ Fr n0 L := by
  subst hk hn
  exact ⟨L, X, by rw [hl]; exact Fr.app N N'⟩
theorem own_icmpY (X : Stand p l e R s m args below meth c T locs cells slots) (hx : p.tables.exec = Jvm.exec) {cd : ClassFile.Cond} {x y : Int32} {o : Int} {pc pc' : Nat} {Ls : Array Slot} {rest : List Value} (hd : decode c.code pc = .ok (.if_icmp cd o, 3)) (ho : 0 ≤ (pc : Int) + o) (hp : ((pc : Int) + o).toNat = pc')
    (hc : own_yes cd x y) (h1 : own_G p.tables e below F (T.setTop (mkF m pc' Ls rest))) : own_G p.tables e below F (T.setTop (mkF m pc Ls (.int y :: .int x :: rest))) :=
  own_go (fun _ k => XS.icmpYes X.here hx rfl (pc0 := pc) (pc' := pc') rfl hd rfl (own_hy hc) ho hp k) h1
theorem own_icmpN (X : Stand p l e R s m args below meth c T locs cells slots) (hx : p.tables.exec = Jvm.exec) {cd : ClassFile.Cond} {x y : Int32} {o : Int} {pc pn : Nat} {Ls : Array Slot} {rest : List Value} (hd : decode c.code pc = .ok (.if_icmp cd o, 3)) (hq : pc + 3 = pn)
    (hc : own_no cd x y) (h1 : own_G p.tables e below F (T.setTop (mkF m pn Ls rest))) : own_G p.tables e below F (T.setTop (mkF m pc Ls (.int y :: .int x :: rest))) := by
  subst hq
  exact own_go (fun _ k => XS.icmpNo X.here hx rfl hd rfl (own_hn hc) k) h1
theorem own_icmp (X : Stand p l e R s m args below meth c T locs cells slots) (hx : p.tables.exec = Jvm.exec) {cd : ClassFile.Cond} {x y : Int32} {o : Int} {pc pc' pn : Nat} {Ls : Array Slot} {rest : List Value} (hd : decode c.code pc = .ok (.if_icmp cd o, 3)) (ho : 0 ≤ (pc : Int) + o) (hp : ((pc : Int) + o).toNat = pc') (hq : pc + 3 = pn)
    (h1 : own_yes cd x y → own_G p.tables e below F (T.setTop (mkF m pc' Ls rest))) (h2 : own_no cd x y → own_G p.tables e below F (T.setTop (mkF m pn Ls rest))) : own_G p.tables e below F (T.setTop (mkF m pc Ls (.int y :: .int x :: rest))) :=
  own_yn.elim (fun q => own_icmpY X hx hd ho hp q (h1 q)) (fun q => own_icmpN X hx hd hq q (h2 q))
theorem own_ifY (X : Stand p l e R s m args below meth c T locs cells slots) (hx : p.tables.exec = Jvm.exec) {cd : ClassFile.Cond} {x : Int32} {o : Int} {pc pc' : Nat} {Ls : Array Slot} {rest : List Value} (hd : decode c.code pc = .ok (.ifCond cd o, 3)) (ho : 0 ≤ (pc : Int) + o) (hp : ((pc : Int) + o).toNat = pc')
    (hc : own_yes cd x 0) (h1 : own_G p.tables e below F (T.setTop (mkF m pc' Ls rest))) : own_G p.tables e below F (T.setTop (mkF m pc Ls (.int x :: rest))) :=
  own_go (fun _ k => XS.ifYes X.here hx rfl (pc0 := pc) (pc' := pc') rfl hd rfl ((if0 cd x).trans (own_hy hc)) ho hp k) h1
theorem own_ifN (X : Stand p l e R s m args below meth c T locs cells slots) (hx : p.tables.exec = Jvm.exec) {cd : ClassFile.Cond} {x : Int32} {o : Int} {pc pn : Nat} {Ls : Array Slot} {rest : List Value} (hd : decode c.code pc = .ok (.ifCond cd o, 3)) (hq : pc + 3 = pn)
    (hc : own_no cd x 0) (h1 : own_G p.tables e below F (T.setTop (mkF m pn Ls rest))) : own_G p.tables e below F (T.setTop (mkF m pc Ls (.int x :: rest))) := by
  subst hq
  exact own_go (fun _ k => XS.ifNo X.here hx rfl hd rfl ((if0 cd x).trans (own_hn hc)) k) h1
theorem own_if (X : Stand p l e R s m args below meth c T locs cells slots) (hx : p.tables.exec = Jvm.exec) {cd : ClassFile.Cond} {x : Int32} {o : Int} {pc pc' pn : Nat} {Ls : Array Slot} {rest : List Value} (hd : decode c.code pc = .ok (.ifCond cd o, 3)) (ho : 0 ≤ (pc : Int) + o) (hp : ((pc : Int) + o).toNat = pc') (hq : pc + 3 = pn)
    (h1 : own_yes cd x 0 → own_G p.tables e below F (T.setTop (mkF m pc' Ls rest))) (h2 : own_no cd x 0 → own_G p.tables e below F (T.setTop (mkF m pn Ls rest))) : own_G p.tables e below F (T.setTop (mkF m pc Ls (.int x :: rest))) :=
  own_yn.elim (fun q => own_ifY X hx hd ho hp q (h1 q)) (fun q => own_ifN X hx hd hq q (h2 q))
theorem own_lifY (X : Stand p l e R s m args below meth c T locs cells slots) (hx : p.tables.exec = Jvm.exec) {cd : ClassFile.Cond} {x y : Int64} {o : Int} {pc pc' : Nat} {Ls : Array Slot} {rest : List Value} (hd : decode c.code pc = .ok (.ifCond cd o, 3)) (ho : 0 ≤ (pc : Int) + o) (hp : ((pc : Int) + o).toNat = pc')
    (hc : own_yes cd x y) (h1 : own_G p.tables e below F (T.setTop (mkF m pc' Ls rest))) : own_G p.tables e below F (T.setTop (mkF m pc Ls (.int (lcmpW x y) :: rest))) :=
  own_go (fun _ k => XS.ifYes X.here hx rfl (pc0 := pc) (pc' := pc') rfl hd rfl (own_hyL hc) ho hp k) h1
theorem own_lifN (X : Stand p l e R s m args below meth c T locs cells slots) (hx : p.tables.exec = Jvm.exec) {cd : ClassFile.Cond} {x y : Int64} {o : Int} {pc pn : Nat} {Ls : Array Slot} {rest : List Value} (hd : decode c.code pc = .ok (.ifCond cd o, 3)) (hq : pc + 3 = pn)
    (hc : own_no cd x y) (h1 : own_G p.tables e below F (T.setTop (mkF m pn Ls rest))) : own_G p.tables e below F (T.setTop (mkF m pc Ls (.int (lcmpW x y) :: rest))) := by
  subst hq
  exact own_go (fun _ k => XS.ifNo X.here hx rfl hd rfl (own_hnL hc) k) h1
theorem own_lif (X : Stand p l e R s m args below meth c T locs cells slots) (hx : p.tables.exec = Jvm.exec) {cd : ClassFile.Cond} {x y : Int64} {o : Int} {pc pc' pn : Nat} {Ls : Array Slot} {rest : List Value} (hd : decode c.code pc = .ok (.ifCond cd o, 3)) (ho : 0 ≤ (pc : Int) + o) (hp : ((pc : Int) + o).toNat = pc') (hq : pc + 3 = pn)
    (h1 : own_yes cd x y → own_G p.tables e below F (T.setTop (mkF m pc' Ls rest))) (h2 : own_no cd x y → own_G p.tables e below F (T.setTop (mkF m pn Ls rest))) : own_G p.tables e below F (T.setTop (mkF m pc Ls (.int (lcmpW x y) :: rest))) :=
  own_ynL.elim (fun q => own_lifY X hx hd ho hp q (h1 q)) (fun q => own_lifN X hx hd hq q (h2 q))
theorem own_ret (X : Stand p l e R s m args below meth c T locs cells slots) (hx : p.tables.exec = Jvm.exec) (hlk : meth.locks = false) {K N pc : Nat} {Ls : Array Slot} {w : Value} {t : FieldType} {i : Instr} {rest : List Value} {Q : Option Value → Heap → List Loc → Prop} (hret : meth.sig.returnType = some t) (hn : narrow t w = w)
    (hi : (i = .ireturn ∧ (t = .int ∨ t = .boolean ∨ t = .byte ∨ t = .char ∨ t = .short) ∧ ∃ z, w = .int z) ∨ (i = .lreturn ∧ t = .long ∧ ∃ z, w = .long z) ∨ (i = .dreturn ∧ t = .double ∧ ∃ z, w = .double z) ∨ (i = .freturn ∧ t = .float ∧ ∃ z, w = .float z) ∨ (i = .areturn ∧ t.isReference = true ∧ w.isRef = true))
    (hd : decode c.code pc = .ok (i, 1)) (hK : cells ≤ K) (hN : slots ≤ N) (hQ : Q (some w) T.heap locs) :
    own_G p.tables e below (fun o U' => ∃ v L, o = .returned v ∧ Q v U'.heap L ∧ FrameEnd s o U' L K N) (T.setTop (mkF m pc Ls (w :: rest))) := by
  obtain ⟨fs, hr, hrun, hended, hW, hsame⟩ := X.leave (v := some w) (fun h => by rw [hret] at h; cases h) hlk
  exact ⟨_, _, retOut X hx hret hn hi hd hr, hrun, hended, _, _, rfl, hQ, ⟨_, rfl⟩, hW, hsame.mono hK hN⟩
theorem own_retI (X : Stand p l e R s m args below meth c T locs cells slots) (hx : p.tables.exec = Jvm.exec) (hlk : meth.locks = false) {K N pc : Nat} {Ls : Array Slot} {z : Int32} {rest : List Value} {Q : Option Value → Heap → List Loc → Prop} (hret : meth.sig.returnType = some .int)
    (hd : decode c.code pc = .ok (.ireturn, 1)) (hK : cells ≤ K) (hN : slots ≤ N) (hQ : Q (some (.int z)) T.heap locs) :
    own_G p.tables e below (fun o U' => ∃ v L, o = .returned v ∧ Q v U'.heap L ∧ FrameEnd s o U' L K N) (T.setTop (mkF m pc Ls (.int z :: rest))) :=
  own_ret X hx hlk hret rfl (Or.inl ⟨rfl, Or.inl rfl, z, rfl⟩) hd hK hN hQ
theorem own_retZ (X : Stand p l e R s m args below meth c T locs cells slots) (hx : p.tables.exec = Jvm.exec) (hlk : meth.locks = false) {K N pc : Nat} {Ls : Array Slot} {z : Int32} {rest : List Value} {Q : Option Value → Heap → List Loc → Prop} (hret : meth.sig.returnType = some .boolean)
    (hd : decode c.code pc = .ok (.ireturn, 1)) (hz : z = 0 ∨ z = 1) (hK : cells ≤ K) (hN : slots ≤ N) (hQ : Q (some (.int z)) T.heap locs) :
    own_G p.tables e below (fun o U' => ∃ v L, o = .returned v ∧ Q v U'.heap L ∧ FrameEnd s o U' L K N) (T.setTop (mkF m pc Ls (.int z :: rest))) :=
  own_ret X hx hlk hret (by rcases hz with rfl | rfl <;> rfl) (Or.inl ⟨rfl, Or.inr (Or.inl rfl), z, rfl⟩) hd hK hN hQ
theorem own_retL (X : Stand p l e R s m args below meth c T locs cells slots) (hx : p.tables.exec = Jvm.exec) (hlk : meth.locks = false) {K N pc : Nat} {Ls : Array Slot} {z : Int64} {rest : List Value} {Q : Option Value → Heap → List Loc → Prop} (hret : meth.sig.returnType = some .long)
    (hd : decode c.code pc = .ok (.lreturn, 1)) (hK : cells ≤ K) (hN : slots ≤ N) (hQ : Q (some (.long z)) T.heap locs) :
    own_G p.tables e below (fun o U' => ∃ v L, o = .returned v ∧ Q v U'.heap L ∧ FrameEnd s o U' L K N) (T.setTop (mkF m pc Ls (.long z :: rest))) :=
  own_ret X hx hlk hret rfl (Or.inr (Or.inl ⟨rfl, rfl, z, rfl⟩)) hd hK hN hQ
theorem own_retA (X : Stand p l e R s m args below meth c T locs cells slots) (hx : p.tables.exec = Jvm.exec) (hlk : meth.locks = false) {K N pc : Nat} {Ls : Array Slot} {w : Value} {t : FieldType} {rest : List Value} {Q : Option Value → Heap → List Loc → Prop} (hret : meth.sig.returnType = some t) (ht : t.isReference = true) (hw : w.isRef = true)
    (hd : decode c.code pc = .ok (.areturn, 1)) (hK : cells ≤ K) (hN : slots ≤ N) (hQ : Q (some w) T.heap locs) :
    own_G p.tables e below (fun o U' => ∃ v L, o = .returned v ∧ Q v U'.heap L ∧ FrameEnd s o U' L K N) (T.setTop (mkF m pc Ls (w :: rest))) :=
  own_ret X hx hlk hret (by cases t <;> first | (cases ht; done) | (rcases ref_cases hw with rfl | ⟨z, rfl⟩ <;> rfl)) (Or.inr (Or.inr (Or.inr (Or.inr ⟨rfl, ht, hw⟩)))) hd hK hN hQ
theorem own_retV (X : Stand p l e R s m args below meth c T locs cells slots) (hx : p.tables.exec = Jvm.exec) (hlk : meth.locks = false) {K N pc : Nat} {Ls : Array Slot} {Q : Option Value → Heap → List Loc → Prop} (hret : meth.sig.returnType = none)
    (hd : decode c.code pc = .ok (.return_, 1)) (hK : cells ≤ K) (hN : slots ≤ N) (hQ : Q none T.heap locs) :
    own_G p.tables e below (fun o U' => ∃ v L, o = .returned v ∧ Q v U'.heap L ∧ FrameEnd s o U' L K N) (T.setTop (mkF m pc Ls [])) := by
  obtain ⟨fs, hr, hrun, hended, hW, hsame⟩ := X.leave (v := none) (fun _ => rfl) hlk
  exact ⟨_, _, X.returnOut hx hret hd hr, hrun, hended, _, _, rfl, hQ, ⟨_, rfl⟩, hW, hsame.mono hK hN⟩
theorem own_acmpVE (X : Stand p l e R s m args below meth c T locs cells slots) (hx : p.tables.exec = Jvm.exec) {cd : ACond} {x y : Value} (h1 : x.isRef = true) (h2 : y.isRef = true) {o : Int} {pc pc' : Nat} {Ls : Array Slot} {rest : List Value} (hd : decode c.code pc = .ok (.if_acmp cd o, 3)) (ho : 0 ≤ (pc : Int) + o) (hp : pc' = if acV cd true = true then ((pc : Int) + o).toNat else pc + 3)
    (hc : x = y) (k : own_G p.tables e below F (T.setTop (mkF m pc' Ls rest))) : own_G p.tables e below F (T.setTop (mkF m pc Ls (y :: x :: rest))) :=
  own_go (fun _ q => RoadKit.acmp X hx rfl h1 h2 (pc0 := pc) (pc' := pc') (same := true) rfl hd rfl (by simp [hc]) ho hp q) k
theorem own_acmpVD (X : Stand p l e R s m args below meth c T locs cells slots) (hx : p.tables.exec = Jvm.exec) {cd : ACond} {x y : Value} (h1 : x.isRef = true) (h2 : y.isRef = true) {o : Int} {pc pc' : Nat} {Ls : Array Slot} {rest : List Value} (hd : decode c.code pc = .ok (.if_acmp cd o, 3)) (ho : 0 ≤ (pc : Int) + o) (hp : pc' = if acV cd false = true then ((pc : Int) + o).toNat else pc + 3)
    (hc : ¬ x = y) (k : own_G p.tables e below F (T.setTop (mkF m pc' Ls rest))) : own_G p.tables e below F (T.setTop (mkF m pc Ls (y :: x :: rest))) :=
  own_go (fun _ q => RoadKit.acmp X hx rfl h1 h2 (pc0 := pc) (pc' := pc') (same := false) rfl hd rfl (by simp [hc]) ho hp q) k
theorem own_acmpAE (X : Stand p l e R s m args below meth c T locs cells slots) (hx : p.tables.exec = Jvm.exec) {cd : ACond} {x y : Addr} {o : Int} {pc pc' : Nat} {Ls : Array Slot} {rest : List Value} (hd : decode c.code pc = .ok (.if_acmp cd o, 3)) (ho : 0 ≤ (pc : Int) + o) (hp : pc' = if acV cd true = true then ((pc : Int) + o).toNat else pc + 3)
    (hc : x = y) (k : own_G p.tables e below F (T.setTop (mkF m pc' Ls rest))) : own_G p.tables e below F (T.setTop (mkF m pc Ls (.ref y :: .ref x :: rest))) :=
  own_acmpVE X hx rfl rfl hd ho hp (by rw [hc]) k
theorem own_acmpAD (X : Stand p l e R s m args below meth c T locs cells slots) (hx : p.tables.exec = Jvm.exec) {cd : ACond} {x y : Addr} {o : Int} {pc pc' : Nat} {Ls : Array Slot} {rest : List Value} (hd : decode c.code pc = .ok (.if_acmp cd o, 3)) (ho : 0 ≤ (pc : Int) + o) (hp : pc' = if acV cd false = true then ((pc : Int) + o).toNat else pc + 3)
    (hc : ¬ x = y) (k : own_G p.tables e below F (T.setTop (mkF m pc' Ls rest))) : own_G p.tables e below F (T.setTop (mkF m pc Ls (.ref y :: .ref x :: rest))) :=
  own_acmpVD X hx rfl rfl hd ho hp (fun q => hc (by cases q; rfl)) k
end Own
theorem own_cat1 {v : Value} (h : v.isRef = true) : v.category = 1 := by cases v <;> first | (cases h; done) | rfl
theorem own_sta_keep {Z : State} {h h' : Heap} {C n d : String} {v : Value} {ws : List Addr} (F : Sta Z h C n d v) (K : Keep h h' ws) (q : ∀ x ∈ ws, ∀ c : Cell, h[x]? = some c → c.vm.isStatics = false) : Sta Z h' C n d v := by
  obtain ⟨cf, i, k, f, st, cell, h1, h2, h3, h4, h5, h6, h7⟩ := F
  exact ⟨cf, i, k, f, st, cell, h1, h2, h3, h4, K.2.1 _ _ h5 (fun z => by rw [q _ z _ h5] at h6; cases h6), h6, h7⟩
theorem own_eqint {t : Term} {n : Int32} {args : Array Value} {s : State} (h : (Jvm.Cond.eq t (Term.int n)).value args s none s [] = some true) : t.eval args s none [] s = some (.int n) := by
  have hb : (Term.int n).eval args s none [] s = some (.int n) := Term.int_eval n
  simp only [Jvm.Cond.value, hb] at h
  cases ht : t.eval args s none [] s with
  | none => simp [ht] at h
  | some v => cases v <;> simp [ht] at h ⊢; exact h
theorem own_iconst {tb : Tables} [Ours tb] {e : Env} {below : List Frame} {T target : State} {m : MethodId} {c : Code} {g : JFrame} {v : Int32} (h : At T m c below) (hx : tb.exec = Jvm.exec) (hg : g.method = m) {i : Int} (hd : decode c.code g.pc = .ok (.iconst i, 1)) (hv : Int32.ofInt i = v)
    (hr : Steps tb e below (T.setTop { g with pc := g.pc + 1, stack := .int v :: g.stack }) target) : Steps tb e below (T.setTop g) target := by
  subst hv
  exact XS.iconst h hx hg hd hr
theorem own_bipush {tb : Tables} [Ours tb] {e : Env} {below : List Frame} {T target : State} {m : MethodId} {c : Code} {g : JFrame} {v : Int32} (h : At T m c below) (hx : tb.exec = Jvm.exec) (hg : g.method = m) {i : Int} (hd : decode c.code g.pc = .ok (.bipush i, 2)) (hv : (Int8.ofInt i).toInt32 = v)
    (hr : Steps tb e below (T.setTop { g with pc := g.pc + 2, stack := .int v :: g.stack }) target) : Steps tb e below (T.setTop g) target := by
  subst hv
  exact XS.bipush h hx hg hd hr
theorem own_sipush {tb : Tables} [Ours tb] {e : Env} {below : List Frame} {T target : State} {m : MethodId} {c : Code} {g : JFrame} {v : Int32} (h : At T m c below) (hx : tb.exec = Jvm.exec) (hg : g.method = m) {i : Int} (hd : decode c.code g.pc = .ok (.sipush i, 3)) (hv : (Int16.ofInt i).toInt32 = v)
    (hr : Steps tb e below (T.setTop { g with pc := g.pc + 3, stack := .int v :: g.stack }) target) : Steps tb e below (T.setTop g) target := by
  subst hv
  exact XS.sipush h hx hg hd hr
/-! own layer: arrays by their whole list of values -/
def own_Ar (Z : State) (h : Heap) (a : Addr) (ty : FieldType) (L : List Value) : Prop := ∃ c : Cell, Arr Z h a c ty ∧ c.slots.toList = L
section OwnArr
variable {Z : State} {h h' : Heap} {a b : Addr} {ty : FieldType} {L : List Value}
theorem own_Ar_new {cA : ClassId} {n : Int32} {N : Nat} (A : Arr Z h a (newA cA ty n) ty) (hN : n.toNatClampNeg = N) (hL : List.replicate N (defaultValue ty) = L) : own_Ar Z h a ty L := ⟨_, A, by rw [← hL, ← hN]; simp [newA]⟩
theorem own_Ar_ext (F : own_Ar Z h a ty L) (E : Ext h h') : own_Ar Z h' a ty L := by obtain ⟨c, A, r⟩ := F; exact ⟨c, A.ext E, r⟩
theorem own_Ar_other {sl : Nat} {v : Value} (F : own_Ar Z h b ty L) (W : Wr h h' a sl v) (q : b ≠ a) : own_Ar Z h' b ty L := by obtain ⟨c, A, r⟩ := F; exact ⟨c, A.other W q, r⟩
theorem own_Ar_keep {ws : List Addr} (F : own_Ar Z h a ty L) (K : Keep h h' ws) (q : a ∉ ws) : own_Ar Z h' a ty L := by obtain ⟨c, A, r⟩ := F; exact ⟨c, ⟨K.2.1 a c A.1 q, A.2⟩, r⟩
theorem own_Ar_lt (F : own_Ar Z h a ty L) : a < h.size := by obtain ⟨c, A, -⟩ := F; exact A.lt
theorem own_Ar_same {i : Nat} {v : Value} {L' : List Value} (F : own_Ar Z h a ty L) (W : Wr h h' a i v) (hL : L.set i v = L') : own_Ar Z h' a ty L' := by
  obtain ⟨c, A, r⟩ := F
  refine ⟨_, A.same W, ?_⟩
  rw [← hL, ← r]
  simp [Cell.setSlot]
theorem own_Ar_ne {C : String} {k : Nat} {a0 : Array Value} (E : Exa Z h b C) (wi : (Jvm.Cond.instantiable C k).before a0 Z = true) (F : own_Ar Z h a ty L) : b ≠ a := by obtain ⟨c, A, -⟩ := F; exact ne_arr E wi A
theorem own_in_of {c : Cell} {j : Int32} (r : c.slots.toList = L) (hj : ¬ j < 0) (hl : j.toNatClampNeg < L.length) : ¬ (j < 0 ∨ c.slots.size ≤ j.toNatClampNeg) := by
  have e : c.slots.size = L.length := by rw [← r]; simp
  rw [e]
  exact fun q => q.elim hj (fun z => absurd hl (Nat.not_lt.mpr z))
theorem own_at_of {c : Cell} {i : Nat} {v : Value} (r : c.slots.toList = L) (hv : L[i]? = some v) : c.slots[i]? = some v := by
  rw [← hv, ← r]; simp
theorem own_lt_of {i : Nat} {v : Value} (hv : L[i]? = some v) : i < L.length := (List.getElem?_eq_some_iff.mp hv).1
variable {p : Program} {l : Launch} {e : Env} {R : Room} {s : State} {m : MethodId} {args : Array Value} {below : List Frame} {meth : Method} {c : Code} {T : State} {locs : List Loc} {cells slots : Nat}
theorem own_stI (X : Stand p l e R s m args below meth c T locs cells slots) (hx : p.tables.exec = Jvm.exec) (hZ : Z.Warmed39 s.vm) (eT : T.heap = h) (F : own_Ar Z h a .int L) {j x : Int32} {i : Nat} (hi : j.toNatClampNeg = i) (hj : ¬ j < 0) (hl : i < L.length) {L' : List Value} (hL : L.set i (.int x) = L')
    {g : JFrame} (hg : g.method = m) {rest : List Value} (hs : g.stack = .int x :: .int j :: .ref a :: rest) (hd : decode c.code g.pc = .ok (.iastore, 1)) :
    ∃ T' h', Stand p l e R s m args below meth c T' (locs ++ [⟨a, i⟩]) cells slots ∧ T'.heap = h' ∧ Wr h h' a i (.int x) ∧ own_Ar Z h' a .int L' ∧ ∀ target, Steps p.tables e below (T'.setTop { g with pc := g.pc + 1, stack := rest }) target → Steps p.tables e below (T.setTop g) target := by
  subst hi
  obtain ⟨cl, A, r⟩ := F
  obtain ⟨T', h', X', e', W, st⟩ := stI X hx hZ eT A (own_in_of r hj hl) hg hs hd
  exact ⟨T', h', X', e', W, own_Ar_same ⟨cl, A, r⟩ W hL, st⟩
theorem own_ldI (X : Stand p l e R s m args below meth c T locs cells slots) (hx : p.tables.exec = Jvm.exec) (hZ : Z.Warmed39 s.vm) (eT : T.heap = h) (F : own_Ar Z h a .int L) {j : Int32} {v : Value} (hj : ¬ j < 0) (hv : L[j.toNatClampNeg]? = some v)
    {g : JFrame} (hg : g.method = m) {rest : List Value} (hs : g.stack = .int j :: .ref a :: rest) (hd : decode c.code g.pc = .ok (.iaload, 1)) :
    ∀ target, Steps p.tables e below (T.setTop { g with pc := g.pc + 1, stack := v :: rest }) target → Steps p.tables e below (T.setTop g) target := by
  obtain ⟨cl, A, r⟩ := F
  exact X.iaload hx (by rw [eT]; exact A.1) (State.isArrayOf_alike hZ.alike A.2.1) A.2.2 (own_in_of r hj (own_lt_of hv)) (own_at_of r hv) hg hs hd
theorem own_ldB (X : Stand p l e R s m args below meth c T locs cells slots) (hx : p.tables.exec = Jvm.exec) (hZ : Z.Warmed39 s.vm) (eT : T.heap = h) (F : own_Ar Z h a .byte L) {j : Int32} {v : Value} (hj : ¬ j < 0) (hv : L[j.toNatClampNeg]? = some v)
    {g : JFrame} (hg : g.method = m) {rest : List Value} (hs : g.stack = .int j :: .ref a :: rest) (hd : decode c.code g.pc = .ok (.baload, 1)) :
    ∀ target, Steps p.tables e below (T.setTop { g with pc := g.pc + 1, stack := v :: rest }) target → Steps p.tables e below (T.setTop g) target := by
  obtain ⟨cl, A, r⟩ := F
  exact X.baloadBytes hx (by rw [eT]; exact A.1) (State.isArrayOf_alike hZ.alike A.2.1) A.2.2 (own_in_of r hj (own_lt_of hv)) (own_at_of r hv) hg hs hd
theorem own_ldR (X : Stand p l e R s m args below meth c T locs cells slots) (hx : p.tables.exec = Jvm.exec) (hZ : Z.Warmed39 s.vm) (eT : T.heap = h) (F : own_Ar Z h a ty L) (hty : ty.isReference = true) {j : Int32} {v : Value} (hj : ¬ j < 0) (hv : L[j.toNatClampNeg]? = some v)
    {g : JFrame} (hg : g.method = m) {rest : List Value} (hs : g.stack = .int j :: .ref a :: rest) (hd : decode c.code g.pc = .ok (.aaload, 1)) :
    ∀ target, Steps p.tables e below (T.setTop { g with pc := g.pc + 1, stack := v :: rest }) target → Steps p.tables e below (T.setTop g) target := by
  obtain ⟨cl, A, r⟩ := F
  exact X.aaload hx (by rw [eT]; exact A.1) (State.isArrayOf_alike hZ.alike A.2.1) hty A.2.2 (own_in_of r hj (own_lt_of hv)) (own_at_of r hv) hg hs hd
theorem own_alen (X : Stand p l e R s m args below meth c T locs cells slots) (hx : p.tables.exec = Jvm.exec) (hZ : Z.Warmed39 s.vm) (eT : T.heap = h) (F : own_Ar Z h a ty L) {n : Int32} (hn : L.length.toInt32 = n)
    {g : JFrame} (hg : g.method = m) {rest : List Value} (hs : g.stack = .ref a :: rest) (hd : decode c.code g.pc = .ok (.arraylength, 1)) :
    ∀ target, Steps p.tables e below (T.setTop { g with pc := g.pc + 1, stack := .int n :: rest }) target → Steps p.tables e below (T.setTop g) target := by
  obtain ⟨cl, A, r⟩ := F
  have q : cl.slots.size.toInt32 = n := by rw [← hn, ← r]; simp
  rw [← q]
  exact fun t k => X.arraylength hx (by rw [eT]; exact A.1) (State.isArrayOf_alike hZ.alike A.2.1) hg hs hd t k
end OwnArr
/-! own layer: arrays of references -/
def own_Ao (Z : State) (h : Heap) (a : Addr) (C : String) (L : List Value) : Prop := ∃ c : Cell, Arr Z h a c (.object C) ∧ Ovr Z c.cls C ∧ c.slots.toList = L
section OwnArrO
variable {Z : State} {h h' : Heap} {a b : Addr} {C : String} {L : List Value}
theorem own_Ao_new {cA : ClassId} {n : Int32} (A : Arr Z h a (newA cA (.object C) n) (.object C)) (O : Ovr Z cA C) : own_Ao Z h a C (List.replicate n.toNatClampNeg .null) := ⟨_, A, O, by simp [newA, defaultValue]⟩
theorem own_Ao_ar (F : own_Ao Z h a C L) : own_Ar Z h a (.object C) L := by obtain ⟨c, A, -, r⟩ := F; exact ⟨c, A, r⟩
theorem own_Ao_ext (F : own_Ao Z h a C L) (E : Ext h h') : own_Ao Z h' a C L := by obtain ⟨c, A, r⟩ := F; exact ⟨c, A.ext E, r⟩
theorem own_Ao_other {sl : Nat} {v : Value} (F : own_Ao Z h b C L) (W : Wr h h' a sl v) (q : b ≠ a) : own_Ao Z h' b C L := by obtain ⟨c, A, r⟩ := F; exact ⟨c, A.other W q, r⟩
theorem own_Ao_keep {ws : List Addr} (F : own_Ao Z h a C L) (K : Keep h h' ws) (q : a ∉ ws) : own_Ao Z h' a C L := by obtain ⟨c, A, r⟩ := F; exact ⟨c, ⟨K.2.1 a c A.1 q, A.2⟩, r⟩
theorem own_Ao_lt (F : own_Ao Z h a C L) : a < h.size := by obtain ⟨c, A, -⟩ := F; exact A.lt
theorem own_Ao_same {i : Nat} {v : Value} (F : own_Ao Z h a C L) (W : Wr h h' a i v) : own_Ao Z h' a C (L.set i v) := by
  obtain ⟨c, A, O, r⟩ := F
  refine ⟨_, A.same W, O, ?_⟩
  rw [← r]
  simp [Cell.setSlot]
variable {p : Program} {l : Launch} {e : Env} {R : Room} {s : State} {m : MethodId} {args : Array Value} {below : List Frame} {meth : Method} {c : Code} {T : State} {locs : List Loc} {cells slots : Nat}
theorem own_stR (X : Stand p l e R s m args below meth c T locs cells slots) (hx : p.tables.exec = Jvm.exec) (hZ : Z.Warmed39 s.vm) (eT : T.heap = h) (F : own_Ao Z h a C L) {j : Int32} {v : Value} (hv : v = .null ∨ ∃ y, v = .ref y ∧ Ins Z h y C true) (hj : ¬ j < 0) (hl : j.toNatClampNeg < L.length)
    {g : JFrame} (hg : g.method = m) {rest : List Value} (hs : g.stack = v :: .int j :: .ref a :: rest) (hd : decode c.code g.pc = .ok (.aastore, 1)) :
    ∃ T' h', Stand p l e R s m args below meth c T' (locs ++ [⟨a, j.toNatClampNeg⟩]) cells slots ∧ T'.heap = h' ∧ Wr h h' a j.toNatClampNeg v ∧ own_Ao Z h' a C (L.set j.toNatClampNeg v) ∧ ∀ target, Steps p.tables e below (T'.setTop { g with pc := g.pc + 1, stack := rest }) target → Steps p.tables e below (T.setTop g) target := by
  obtain ⟨cl, A, O, r⟩ := F
  have S : Sto Z h a v := by
    rcases hv with rfl | ⟨y, rfl, I⟩
    · exact Or.inl rfl
    · exact Sto.of A O I
  obtain ⟨T', h', X', e', W, st⟩ := stR X hx hZ eT A (own_in_of r hj hl) rfl S hg hs hd
  exact ⟨T', h', X', e', W, own_Ao_same ⟨cl, A, O, r⟩ W, st⟩
end OwnArrO
/-! own layer: a bundle of boxed ints -/
def own_Bn (Z : State) (h : Heap) (l : List (Addr × Int32)) : Prop := ∀ x ∈ l, Exa Z h x.1 "java/lang/Integer" ∧ Fld Z h x.1 "java/lang/Integer" "value" "I" (.int x.2)
theorem own_Bn_keep {Z : State} {h h' : Heap} {l : List (Addr × Int32)} {ws : List Addr} (B : own_Bn Z h l) (K : Keep h h' ws) (q : ∀ x ∈ l, x.1 ∉ ws) : own_Bn Z h' l := fun x hx => ⟨(B x hx).1.keep K, (B x hx).2.keep K (q x hx)⟩
theorem own_Bn_exa {Z : State} {h : Heap} {l : List (Addr × Int32)} {a : Addr} {v : Int32} (B : own_Bn Z h l) (q : (a, v) ∈ l) : Exa Z h a "java/lang/Integer" := (B _ q).1
theorem own_Bn_fld {Z : State} {h : Heap} {l : List (Addr × Int32)} {a : Addr} {v : Int32} (B : own_Bn Z h l) (q : (a, v) ∈ l) : Fld Z h a "java/lang/Integer" "value" "I" (.int v) := (B _ q).2
theorem own_Bn_nil (Z : State) (h : Heap) : own_Bn Z h [] := fun _ q => nomatch q
theorem own_Bn_cons {Z : State} {h : Heap} {l : List (Addr × Int32)} {a : Addr} {v : Int32} (E : Exa Z h a "java/lang/Integer") (F : Fld Z h a "java/lang/Integer" "value" "I" (.int v)) (B : own_Bn Z h l) : own_Bn Z h ((a, v) :: l) := fun x hx => by
  rcases List.mem_cons.mp hx with rfl | q
  · exact ⟨E, F⟩
  · exact B x q
/-! own layer: int arrays of which only the length is known -/
def own_An (Z : State) (h : Heap) (a : Addr) (N : Nat) : Prop := ∃ c : Cell, Arr Z h a c .int ∧ c.slots.size = N
section OwnAn
variable {Z : State} {h h' : Heap} {a b : Addr} {N : Nat}
theorem own_An_new {cA : ClassId} {n : Int32} (A : Arr Z h a (newA cA .int n) .int) (hN : n.toNatClampNeg = N) : own_An Z h a N := ⟨_, A, by rw [sz_new, hN]⟩
theorem own_An_ext (F : own_An Z h a N) (E : Ext h h') : own_An Z h' a N := by obtain ⟨c, A, r⟩ := F; exact ⟨c, A.ext E, r⟩
theorem own_An_other {sl : Nat} {v : Value} (F : own_An Z h b N) (W : Wr h h' a sl v) (q : b ≠ a) : own_An Z h' b N := by obtain ⟨c, A, r⟩ := F; exact ⟨c, A.other W q, r⟩
theorem own_An_keep {ws : List Addr} (F : own_An Z h a N) (K : Keep h h' ws) (q : a ∉ ws) : own_An Z h' a N := by obtain ⟨c, A, r⟩ := F; exact ⟨c, ⟨K.2.1 a c A.1 q, A.2⟩, r⟩
theorem own_An_lt (F : own_An Z h a N) : a < h.size := by obtain ⟨c, A, -⟩ := F; exact A.lt
theorem own_An_same {i : Nat} {v : Value} (F : own_An Z h a N) (W : Wr h h' a i v) : own_An Z h' a N := by
  obtain ⟨c, A, r⟩ := F
  exact ⟨_, A.same W, by rw [sz_set]; exact r⟩
variable {p : Program} {l : Launch} {e : Env} {R : Room} {s : State} {m : MethodId} {args : Array Value} {below : List Frame} {meth : Method} {c : Code} {T : State} {locs : List Loc} {cells slots : Nat}
theorem own_stN (X : Stand p l e R s m args below meth c T locs cells slots) (hx : p.tables.exec = Jvm.exec) (hZ : Z.Warmed39 s.vm) (eT : T.heap = h) (F : own_An Z h a N) {j x : Int32} (hj : ¬ j < 0) (hl : j.toNatClampNeg < N)
    {g : JFrame} (hg : g.method = m) {rest : List Value} (hs : g.stack = .int x :: .int j :: .ref a :: rest) (hd : decode c.code g.pc = .ok (.iastore, 1)) :
    ∃ T' h', Stand p l e R s m args below meth c T' (locs ++ [⟨a, j.toNatClampNeg⟩]) cells slots ∧ T'.heap = h' ∧ Wr h h' a j.toNatClampNeg (.int x) ∧ own_An Z h' a N ∧ ∀ target, Steps p.tables e below (T'.setTop { g with pc := g.pc + 1, stack := rest }) target → Steps p.tables e below (T.setTop g) target := by
  obtain ⟨cl, A, r⟩ := F
  obtain ⟨T', h', X', e', W, st⟩ := stI X hx hZ eT A (fun q => q.elim hj (fun z => by rw [r] at z; exact absurd hl (Nat.not_lt.mpr z))) hg hs hd
  exact ⟨T', h', X', e', W, own_An_same ⟨cl, A, r⟩ W, st⟩
theorem own_alenN (X : Stand p l e R s m args below meth c T locs cells slots) (hx : p.tables.exec = Jvm.exec) (hZ : Z.Warmed39 s.vm) (eT : T.heap = h) (F : own_An Z h a N) {g : JFrame} (hg : g.method = m) {rest : List Value} (hs : g.stack = .ref a :: rest) (hd : decode c.code g.pc = .ok (.arraylength, 1)) :
    ∀ target, Steps p.tables e below (T.setTop { g with pc := g.pc + 1, stack := .int N.toInt32 :: rest }) target → Steps p.tables e below (T.setTop g) target := by
  obtain ⟨cl, A, r⟩ := F
  rw [← r]
  exact fun t k => X.arraylength hx (by rw [eT]; exact A.1) (State.isArrayOf_alike hZ.alike A.2.1) hg hs hd t k
end OwnAn
theorem own_notinst {Z : State} {a0 : Array Value} {O K : String} {n : Nat} (w : (Jvm.Cond.noSuperclass O).before a0 Z = true) (wi : (Jvm.Cond.instantiable K n).before a0 Z = true) (hn : O ≠ K) : NS Z O K := by
  obtain ⟨t, kt, g1, g2, -⟩ := Cond.instantiable_spec wi
  obtain ⟨c, k, h1, h2, h3, -⟩ := Cond.noSuperclass_spec w
  have hne : c ≠ t := ids_ne h1 g1 hn
  refine ⟨c, t, h1, g1, ?_⟩
  intro fuel
  induction fuel with
  | zero => rfl
  | succ f _ => simp [Vm.isSubclassAux, hne, h2, h3]
theorem own_noasg {Z : State} {a0 : Array Value} {C S K : String} {n : Nat} (w : (Jvm.Cond.superclass C S).before a0 Z = true) (wi : (Jvm.Cond.instantiable K n).before a0 Z = true) (q : NS Z C K) (hn : C ≠ K) : ∃ c t, Z.vm.findClass C = some c ∧ Z.vm.findClass K = some t ∧ Z.vm.assignable c t = false := by
  obtain ⟨c, t, h0, g0, n3⟩ := q
  obtain ⟨t', kt, g1, g2, g3, g4, -⟩ := Cond.instantiable_spec wi
  cases g0.symm.trans g1
  obtain ⟨p, k, kp, h1, h2, h3, h4, h5, -, h7⟩ := Cond.superclass_spec h0 w
  have hne : c ≠ t := ids_ne h0 g0 hn
  have g5 : kt.isInterface = false := by simp only [Bool.or_eq_false_iff] at g4; exact g4.1
  refine ⟨c, t, h0, g0, ?_⟩
  show Z.vm.assignableAux (255 + 1) c t = false
  simp [Vm.assignableAux, hne, h2, g2, h5, g3, g5, Vm.isSubclass, n3]
theorem own_selp {Z s : State} {a0 args : Array Value} {y : MethodName} {n : Nat} (hZ : Z.Warmed39 s.vm) (wi : (Jvm.Cond.instantiable y.cls n).before a0 Z = true) (wp : (Jvm.Cond.privateMethod y).before a0 Z = true) (wm : (Jvm.Cond.instanceMethod y).before a0 Z = true) (hy : y.cls ≠ "java/lang/invoke/MethodHandle" ∧ y.cls ≠ "java/lang/invoke/VarHandle") : (Jvm.Cond.selects y.cls y y).before args s = true := by
  obtain ⟨c, k, h1, h2, -, h4, -⟩ := Cond.instantiable_spec (mv (args := args) hZ wi)
  simp only [Bool.or_eq_false_iff] at h4
  exact selects_self_of_private h1 h2 h4.1 (Cond.privateMethod_at (mvP hZ wp (args := args))) (mv hZ wm) hy
abbrev own_y1 : MethodName := ⟨"java/lang/Number", "<init>", "()V"⟩
abbrev own_y2 : MethodName := ⟨"java/lang/Integer", "<init>", "(I)V"⟩
abbrev own_y3 : MethodName := ⟨"java/util/Arrays", "fill", "([II)V"⟩
abbrev own_y4 : MethodName := ⟨"com/example/parts_to_policy/partstopolicy/policy/Bdd", "clearCache", "(I)V"⟩
abbrev own_y5 : MethodName := ⟨"com/example/parts_to_policy/partstopolicy/policy/Bdd", "<init>", "(I)V"⟩
abbrev own_y6 : MethodName := ⟨"com/example/parts_to_policy/partstopolicy/policy/PacketSet", "<init>", "(Lcom/example/parts_to_policy/partstopolicy/policy/Bdd;I)V"⟩
abbrev own_y7 : MethodName := ⟨"com/example/parts_to_policy/partstopolicy/policy/PacketSet", "equals", "(Ljava/lang/Object;)Z"⟩
abbrev own_y8 : MethodName := ⟨"java/lang/Integer", "valueOf", "(I)Ljava/lang/Integer;"⟩
theorem own_pd1 : parseMethodDescriptor "()V" = some ⟨[], none⟩ := by decide +kernel
theorem own_pd2 : parseMethodDescriptor "(I)V" = some ⟨[.int], none⟩ := by decide +kernel
theorem own_pd3 : parseMethodDescriptor "([II)V" = some ⟨[(.array .int), .int], none⟩ := by decide +kernel
theorem own_pd4 : parseMethodDescriptor "(Lcom/example/parts_to_policy/partstopolicy/policy/Bdd;I)V" = some ⟨[(.object "com/example/parts_to_policy/partstopolicy/policy/Bdd"), .int], none⟩ := by decide +kernel
theorem own_pd5 : parseMethodDescriptor "(Ljava/lang/Object;)Z" = some ⟨[(.object "java/lang/Object")], (some .boolean)⟩ := by decide +kernel
theorem own_pd6 : parseMethodDescriptor "(I)Ljava/lang/Integer;" = some ⟨[.int], (some (.object "java/lang/Integer"))⟩ := by decide +kernel

def own_Cache (Z : State) (h : Heap) (ca : Addr) : Prop := ∃ L, own_Ar Z h ca (.object "java/lang/Integer") L ∧ ∀ j : Int32, ¬ j < (-128 : Int32) → ¬ (127 : Int32) < j → ∃ y, L[(j + (128 : Int32)).toNatClampNeg]? = some (.ref y) ∧ Exa Z h y "java/lang/Integer" ∧ Fld Z h y "java/lang/Integer" "value" "I" (.int j)
theorem own_Cache_keep {Z : State} {h h' : Heap} {ca : Addr} (F : own_Cache Z h ca) (K : Keep h h' []) : own_Cache Z h' ca := by
  obtain ⟨L, A, H⟩ := F
  refine ⟨L, own_Ar_keep A K nin0, fun j q1 q2 => ?_⟩
  obtain ⟨y, y1, y2, y3⟩ := H j q1 q2
  exact ⟨y, y1, y2.keep K, y3.keep K nin0⟩
theorem own_j128 {j : Int32} (q1 : ¬ j < (-128 : Int32)) (q2 : ¬ (127 : Int32) < j) : ¬ (j + (128 : Int32)) < 0 := by
  have a := c_iadd j (128 : Int32)
  have r := rng32 (j + (128 : Int32))
  have e0 : (0 : Int32).toInt = 0 := by decide
  have e1 : (128 : Int32).toInt = 128 := by decide
  have e2 : (-128 : Int32).toInt = -128 := by decide
  have e3 : (127 : Int32).toInt = 127 := by decide
  rw [Int32.lt_iff_toInt_lt] at *
  omega
theorem own_len {s : State} {args : Array Value} {t : Term} {a : Addr} {cl : Cell} {n : Int32} (ht : t.eval args s none [] s = some (.ref a)) (ha : s.arrayAt? a = some cl) (h : (Term.length t).eval args s none [] s = some (.int n)) : cl.slots.size < 2 ^ 31 ∧ cl.slots.size.toInt32 = n := by
  by_cases hl : cl.slots.size < 2 ^ 31
  · rw [len_f ht ha hl] at h
    exact ⟨hl, by cases h; rfl⟩
  · simp [Term.eval, ht, ha, hl] at h
theorem own_sub128 {s : State} {args : Array Value} {j : Int32} (nn : ¬ j < 0) : (Term.sub (Term.index (0 : Nat)) (Term.int (128 : Int32))).eval args s none [j.toNatClampNeg] s = some (.int (j - (128 : Int32))) := by
  simp [Term.eval]
  exact (back32 nn).1
theorem own_cache_of {s : State} {args : Array Value} {ca : Addr} (hf : Fit s) (ev : (Term.static "java/lang/Integer$IntegerCache" "cache" "[Ljava/lang/Integer;").eval args s none [] s = some (.ref ca))
    (h4 : (Jvm.Cond.arrayOf (Term.static "java/lang/Integer$IntegerCache" "cache" "[Ljava/lang/Integer;") (FieldType.object "java/lang/Integer")).value args s none s [] = some true)
    (h6 : (Jvm.Cond.eq (Term.length (Term.static "java/lang/Integer$IntegerCache" "cache" "[Ljava/lang/Integer;")) (Term.int (256 : Int32))).value args s none s [] = some true)
    (h7 : (Jvm.Cond.all (Term.static "java/lang/Integer$IntegerCache" "cache" "[Ljava/lang/Integer;") (Jvm.Cond.and (Jvm.Cond.exactly (Term.elem (Term.static "java/lang/Integer$IntegerCache" "cache" "[Ljava/lang/Integer;") (Term.index (0 : Nat))) "java/lang/Integer") (Jvm.Cond.eq (Term.field (Term.elem (Term.static "java/lang/Integer$IntegerCache" "cache" "[Ljava/lang/Integer;") (Term.index (0 : Nat))) "java/lang/Integer" "value" "I") (Term.sub (Term.index (0 : Nat)) (Term.int (128 : Int32)))))).value args s none s [] = some true) : own_Cache s s.heap ca := by
  obtain ⟨cl, A⟩ := Arr.start ev h4
  obtain ⟨z1, z2⟩ := own_len ev (A.fin (Vm.Alike.refl _)) (own_eqint h6)
  have B := Bxs.start (val := fun j => .int (j - (128 : Int32))) (fun _ => ev) A z1 z2 (by decide) h7 (fun X j nn q => eqv_i (own_sub128 nn) q)
  refine ⟨cl.slots.toList, ⟨cl, A, rfl⟩, fun j q1 q2 => ?_⟩
  have hj := own_j128 q1 q2
  have hk : (j + (128 : Int32)).toNatClampNeg < 256 := by
    have a := c_iadd j (128 : Int32)
    have r := rng32 (j + (128 : Int32))
    have w := nat_of hj
    have e0 : (0 : Int32).toInt = 0 := by decide
    have e1 : (128 : Int32).toInt = 128 := by decide
    have e2 : (-128 : Int32).toInt = -128 := by decide
    have e3 : (127 : Int32).toInt = 127 := by decide
    rw [Int32.lt_iff_toInt_lt] at *
    omega
  have hs : cl.slots.size = 256 := B.2.1
  obtain ⟨y, y1, y2, y3⟩ := B.2.2.2 (j + (128 : Int32)) (fun z => z.elim hj (fun u => absurd hk (by rw [hs] at u; exact Nat.not_lt.mpr u)))
  refine ⟨y, by rw [← y1]; simp, y2, ?_⟩
  have e : j + (128 : Int32) - (128 : Int32) = j := by simp
  have y3' : Fld s s.heap y "java/lang/Integer" "value" "I" (.int (j + (128 : Int32) - (128 : Int32))) := y3
  rw [e] at y3'
  exact y3'

theorem own_c4 {p z : Int32} (h : z = (p &&& (3 : Int32))) : z = (0 : Int32) ∨ z = (1 : Int32) ∨ z = (2 : Int32) ∨ z = (3 : Int32) := by
  have m := c_mask p (3 : Int32) 2 (by decide) (by decide)
  rw [← h] at m
  have e0 : (0 : Int32).toInt = 0 := by decide
  have e1 : (1 : Int32).toInt = 1 := by decide
  have e2 : (2 : Int32).toInt = 2 := by decide
  have e3 : (3 : Int32).toInt = 3 := by decide
  rw [← Int32.toInt_inj, ← Int32.toInt_inj, ← Int32.toInt_inj, ← Int32.toInt_inj]
  omega
theorem own_n32 {nn : Nat} (hN : nn < 2147483648) : (nn.toInt32).toInt = nn := by
  have := Int32.toInt_ofNat_of_lt (n := nn) (by omega)
  exact this
theorem own_l0 {nn : Nat} {ii : Int32} (hN : nn < 2147483648) (q1 : ¬ ii < 0) (q2 : ii.toInt + (0 : Nat) = nn) : ¬ ii < nn.toInt32 := by
  rw [Int32.lt_iff_toInt_lt, own_n32 hN]
  omega
theorem own_l1 {nn kk : Nat} {ii : Int32} (hN : nn < 2147483648) (q1 : ¬ ii < 0) (q2 : ii.toInt + ((kk + 1 : Nat) : Int) = nn) : ii < nn.toInt32 := by
  rw [Int32.lt_iff_toInt_lt, own_n32 hN]
  omega
theorem own_l2 {nn kk : Nat} {ii : Int32} (q1 : ¬ ii < 0) (q2 : ii.toInt + ((kk + 1 : Nat) : Int) = nn) : ii.toNatClampNeg < nn := by
  have w := nat_of q1
  omega
theorem own_l3 {nn kk : Nat} {ii : Int32} (hN : nn < 2147483648) (q1 : ¬ ii < 0) (q2 : ii.toInt + ((kk + 1 : Nat) : Int) = nn) : ¬ (ii + (1 : Int32)) < 0 ∧ (ii + (1 : Int32)).toInt + kk = nn := by
  have a := c_iadd ii (1 : Int32)
  have r := rng32 (ii + (1 : Int32))
  have e0 : (0 : Int32).toInt = 0 := by decide
  have e1 : (1 : Int32).toInt = 1 := by decide
  rw [Int32.lt_iff_toInt_lt] at *
  omega

theorem own_num_d0 : decode jdk_18_method_1_code 0 = .ok (.aload_n 0, 1) := by decide +kernel
theorem own_num_d1 : decode jdk_18_method_1_code 1 = .ok (.invokespecial 1, 3) := by decide +kernel
theorem own_num_d4 : decode jdk_18_method_1_code 4 = .ok (.return_, 1) := by decide +kernel
theorem own_num_pn : plainName "java/lang/Number" = true := by first | (simp [plainName, overriddenIn]; done) | decide +kernel
theorem own_num_ef (m : MethodId) (ra : Addr) : entryFrame m #[(.ref ra)] 1 = mkF m 0 #[rv ra] [] := by first | (simp [entryFrame, mkF, argsToLocals, Value.category]; done) | rfl
def own_num_Q (Z : State) (ra : Addr) (h0 : Heap) (n0 : Nat) (v : Option Value) (h : Heap) (L : List Loc) : Prop := v = none ∧ Fr n0 L ∧ h = h0
set_option maxRecDepth 65536 in
set_option maxHeartbeats 40000000 in
theorem own_num (l : Launch) (Z : State) (a0 : Array Value) (hw : ∀ d ∈ tables_1, d.before a0 Z = true) (ws : List Jvm.Cond) (ra : Addr) (h0 : Heap) (n0 : Nat) :
    MetFree l own_y1 (head1 (Jvm.Cond.code own_y1 jdk_18_method_1_code 1 none :: ws) ({ frames := 1, cells := 0, slots := 0, locals := 12 } : Room)) (fun a U => a = #[(.ref ra)] ∧ Z.Warmed39 U.vm ∧ U.heap = h0) (fun _ _ _ _ _ => True) (fun _ U o U' => ∃ v L, o = .returned v ∧ (own_num_Q Z ra h0 n0) v U'.heap L ∧ FrameEnd U o U' L ({ frames := 1, cells := 0, slots := 0, locals := 12 } : Room).cells ({ frames := 1, cells := 0, slots := 0, locals := 12 } : Room).slots) := by
  refine MetFree.of_bodySF (plainFor_of_name own_num_pn) hisR ?_
  intro p e s m args below meth c s₁ Bd hml0 hP hK
  obtain ⟨rfl, hZ, hh⟩ := hP
  have hx := Bd.exec
  have hby := Bd.bytes
  have hml : c.maxLocals = 1 := hml0
  have hown : s.vm.findClass "java/lang/Number" = some m.cls := findClass_of_methodNamed Bd.named
  have hnm := (name_of_methodNamed Bd.named Bd.method).1
  have hlk : meth.locks = false := Bd.notSynchronized
  have X0 : Stand p l e ({ frames := 1, cells := 0, slots := 0, locals := 12 } : Room) s m #[(.ref ra)] below meth c s₁ [] 0 0 := Stand.of_body Bd
  have e0 : s₁.heap = h0 := by rw [← hh, Bd.state]; rfl
  have N0 := Fr.nil n0
  have w_7 := hw _ (List.mem_of_getElem? (l := tables_1) (i := 7) rfl)
  have w_8 := hw _ (List.mem_of_getElem? (l := tables_1) (i := 8) rfl)
  have w_77 := hw _ (List.mem_of_getElem? (l := tables_1) (i := 77) rfl)
  show own_G p.tables e below (fun o U' => ∃ v L, o = .returned v ∧ (own_num_Q Z ra h0 n0) v U'.heap L ∧ FrameEnd s o U' L ({ frames := 1, cells := 0, slots := 0, locals := 12 } : Room).cells ({ frames := 1, cells := 0, slots := 0, locals := 12 } : Room).slots) (s₁.setTop (entryFrame m #[(.ref ra)] 1))
  refine own_go (B := s₁.setTop (mkF m 0 #[rv ra] [])) (fun t k => castTop (own_num_ef m ra) k) ?_
  refine own_go (B := (s₁.setTop (mkF m 1 #[rv ra] [(.ref ra)]))) (fun t k => XS.aloadN X0.here hx rfl (hb hby own_num_d0) rfl rfl k) ?_
  obtain ⟨T1, X1, e1, st1⟩ := initO X0 hx hZ hown w_77 w_7 w_8 e0 (g := (mkF m 1 #[rv ra] [(.ref ra)])) rfl (by rw [hml]; rfl) rfl (hb hby own_num_d1) (by decide) (W := 0) (by show 2 * 0 + _ ≤ _; exact own_b rfl) (by decide)
  refine own_go (B := (T1.setTop (mkF m 4 #[rv ra] []))) st1 ?_
  exact own_retV X1 hx hlk Bd.returns (hb hby own_num_d4) (own_b rfl) (own_b rfl) (Q := (own_num_Q Z ra h0 n0)) ⟨rfl, N0, e1⟩

theorem own_ict_d0 : decode jdk_33_method_23_code 0 = .ok (.aload_n 0, 1) := by decide +kernel
theorem own_ict_d1 : decode jdk_33_method_23_code 1 = .ok (.invokespecial 202, 3) := by decide +kernel
theorem own_ict_d4 : decode jdk_33_method_23_code 4 = .ok (.aload_n 0, 1) := by decide +kernel
theorem own_ict_d5 : decode jdk_33_method_23_code 5 = .ok (.iload_n 1, 1) := by decide +kernel
theorem own_ict_d6 : decode jdk_33_method_23_code 6 = .ok (.putfield 205, 3) := by decide +kernel
theorem own_ict_d9 : decode jdk_33_method_23_code 9 = .ok (.return_, 1) := by decide +kernel
theorem own_ict_pn : plainName "java/lang/Integer" = true := by first | (simp [plainName, overriddenIn]; done) | decide +kernel
theorem own_ict_ef (m : MethodId) (th : Addr) (pv : Int32) : entryFrame m #[(.ref th), (.int pv)] 2 = mkF m 0 #[rv th, iv pv] [] := by first | (simp [entryFrame, mkF, argsToLocals, Value.category]; done) | rfl
def own_ict_Q (Z : State) (th : Addr) (pv : Int32) (h0 : Heap) (n0 : Nat) (v : Option Value) (h : Heap) (L : List Loc) : Prop := v = none ∧ Fr n0 L ∧ Keep h0 h [th] ∧ Exa Z h th "java/lang/Integer" ∧ Fld Z h th "java/lang/Integer" "value" "I" (.int pv)
set_option maxRecDepth 65536 in
set_option maxHeartbeats 40000000 in
theorem own_ict (l : Launch) (Z : State) (a0 : Array Value) (hw : ∀ d ∈ tables_1, d.before a0 Z = true) (ws : List Jvm.Cond) (th : Addr) (pv : Int32) (h0 : Heap) (n0 : Nat) (Z0 : n0 ≤ h0.size) (E0 : Exa Z h0 th "java/lang/Integer") (g0 : n0 ≤ th) (F9000 : Fld Z h0 th "java/lang/Integer" "value" "I" (.int (0 : Int32))) :
    MetFree l own_y2 (head1 (Jvm.Cond.code own_y2 jdk_33_method_23_code 2 none :: ws) ({ frames := 2, cells := 0, slots := 0, locals := 24 } : Room)) (fun a U => a = #[(.ref th), (.int pv)] ∧ Z.Warmed39 U.vm ∧ U.heap = h0) (fun _ _ _ _ _ => True) (fun _ U o U' => ∃ v L, o = .returned v ∧ (own_ict_Q Z th pv h0 n0) v U'.heap L ∧ FrameEnd U o U' L ({ frames := 2, cells := 0, slots := 0, locals := 24 } : Room).cells ({ frames := 2, cells := 0, slots := 0, locals := 24 } : Room).slots) := by
  refine MetFree.of_bodySF (plainFor_of_name own_ict_pn) hisR ?_
  intro p e s m args below meth c s₁ Bd hml0 hP hK
  obtain ⟨rfl, hZ, hh⟩ := hP
  have hx := Bd.exec
  have hby := Bd.bytes
  have hml : c.maxLocals = 2 := hml0
  have hown : s.vm.findClass "java/lang/Integer" = some m.cls := findClass_of_methodNamed Bd.named
  have hnm := (name_of_methodNamed Bd.named Bd.method).1
  have hlk : meth.locks = false := Bd.notSynchronized
  have X0 : Stand p l e ({ frames := 2, cells := 0, slots := 0, locals := 24 } : Room) s m #[(.ref th), (.int pv)] below meth c s₁ [] 0 0 := Stand.of_body Bd
  have e0 : s₁.heap = h0 := by rw [← hh, Bd.state]; rfl
  have N0 := Fr.nil n0
  have w_66 := hw _ (List.mem_of_getElem? (l := tables_1) (i := 66) rfl)
  have w_71 := hw _ (List.mem_of_getElem? (l := tables_1) (i := 71) rfl)
  have w_72 := hw _ (List.mem_of_getElem? (l := tables_1) (i := 72) rfl)
  have w_75 := hw _ (List.mem_of_getElem? (l := tables_1) (i := 75) rfl)
  have w_76 := hw _ (List.mem_of_getElem? (l := tables_1) (i := 76) rfl)
  have w_78 := hw _ (List.mem_of_getElem? (l := tables_1) (i := 78) rfl)
  have w_79 := hw _ (List.mem_of_getElem? (l := tables_1) (i := 79) rfl)
  show own_G p.tables e below (fun o U' => ∃ v L, o = .returned v ∧ (own_ict_Q Z th pv h0 n0) v U'.heap L ∧ FrameEnd s o U' L ({ frames := 2, cells := 0, slots := 0, locals := 24 } : Room).cells ({ frames := 2, cells := 0, slots := 0, locals := 24 } : Room).slots) (s₁.setTop (entryFrame m #[(.ref th), (.int pv)] 2))
  refine own_go (B := s₁.setTop (mkF m 0 #[rv th, iv pv] [])) (fun t k => castTop (own_ict_ef m th pv) k) ?_
  have K0 := Keep.refl h0 [th]
  refine own_go (B := (s₁.setTop (mkF m 1 #[rv th, iv pv] [(.ref th)]))) (fun t k => XS.aloadN X0.here hx rfl (hb hby own_ict_d0) rfl rfl k) ?_
  obtain ⟨_, _, ⟨T1, L1, k1, n1⟩, -, X1, ⟨Lc1, hQ1, l1, y1, z1⟩, st1⟩ := X0.specialBack hx (y := own_y1) rfl hown (mvT hZ w_71) (mvT hZ w_72) (mvT hZ w_76) (by decide) (backOf (W := 0) (own_num l Z a0 hw [] th h0 n0) hZ w_76 w_75 (by decide) (by decide)) (g := (mkF m 1 #[rv th, iv pv] [(.ref th)])) rfl (by rw [hml]; rfl) (Steps.refl _) (a := th) (argsL := []) (rest := []) (lenOf own_pd1 rfl) rfl (by show 2 * 0 + _ ≤ _; exact own_b rfl) (hb hby own_ict_d1) (fun _ _ => ⟨rfl, e0, (own_b rfl : 0 + 0 ≤ _), (own_b rfl : 0 + 0 ≤ _)⟩)
  dsimp only [Pt.U, Pt.locs, Pt.cells, Pt.slots] at X1 l1 y1 z1 st1 hQ1
  obtain ⟨rfl, Nq1, eq1⟩ := hQ1
  obtain ⟨L1, X1, N1⟩ := own_absC (K := 0) (K' := 0) X1 l1 y1 z1 N0 Nq1
  have e1 : T1.heap = h0 := eq1
  refine own_tr (B := (T1.setTop (mkF m 4 #[rv th, iv pv] []))) st1 ?_
  refine own_go (B := (T1.setTop (mkF m 5 #[rv th, iv pv] [(.ref th)]))) (fun t k => XS.aloadN X1.here hx rfl (hb hby own_ict_d4) rfl rfl k) ?_
  refine own_go (B := (T1.setTop (mkF m 6 #[rv th, iv pv] [(.int pv), (.ref th)]))) (fun t k => XS.iloadN X1.here hx rfl (hb hby own_ict_d5) rfl k) ?_
  obtain ⟨T2, h2, X2, e2, W2, st2⟩ := putF X1 hx hZ hown (host := "") (Or.inl w_78) Via.refl e1 F9000 E0 (Or.inr ⟨w_79, rfl, hnm⟩) w_66 (ty := .int) (by decide) rfl rfl (g := (mkF m 6 #[rv th, iv pv] [(.int pv), (.ref th)])) rfl rfl (hb hby own_ict_d6)
  refine own_go (B := (T2.setTop (mkF m 9 #[rv th, iv pv] []))) st2 ?_
  obtain ⟨L2, X2, N2⟩ := own_abs X2 (Fr.snoc X2 N1 g0)
  have F3 : n0 ≤ h2.size := by rw [W2.size]; exact Z0
  have F4 := Exa.wr W2 E0
  have F5 := Keep.wr K0 W2 (Or.inl (List.mem_of_getElem? (i := 0) rfl))
  have F6 := Fld.same W2 F9000
  exact own_retV X2 hx hlk Bd.returns (hb hby own_ict_d9) (own_b rfl) (own_b rfl) (Q := (own_ict_Q Z th pv h0 n0)) (by rw [e2]; exact ⟨rfl, N2, F5, F4, F6⟩)

theorem own_vo_d0 : decode jdk_33_method_22_code 0 = .ok (.iload_n 0, 1) := by decide +kernel
theorem own_vo_d1 : decode jdk_33_method_22_code 1 = .ok (.bipush (-128), 2) := by decide +kernel
theorem own_vo_d3 : decode jdk_33_method_22_code 3 = .ok (.if_icmp .lt 20, 3) := by decide +kernel
theorem own_vo_d6 : decode jdk_33_method_22_code 6 = .ok (.iload_n 0, 1) := by decide +kernel
theorem own_vo_d7 : decode jdk_33_method_22_code 7 = .ok (.getstatic 191, 3) := by decide +kernel
theorem own_vo_d10 : decode jdk_33_method_22_code 10 = .ok (.if_icmp .gt 13, 3) := by decide +kernel
theorem own_vo_d13 : decode jdk_33_method_22_code 13 = .ok (.getstatic 195, 3) := by decide +kernel
theorem own_vo_d16 : decode jdk_33_method_22_code 16 = .ok (.iload_n 0, 1) := by decide +kernel
theorem own_vo_d17 : decode jdk_33_method_22_code 17 = .ok (.sipush 128, 3) := by decide +kernel
theorem own_vo_d20 : decode jdk_33_method_22_code 20 = .ok (.iadd, 1) := by decide +kernel
theorem own_vo_d21 : decode jdk_33_method_22_code 21 = .ok (.aaload, 1) := by decide +kernel
theorem own_vo_d22 : decode jdk_33_method_22_code 22 = .ok (.areturn, 1) := by decide +kernel
theorem own_vo_d23 : decode jdk_33_method_22_code 23 = .ok (.new 1, 3) := by decide +kernel
theorem own_vo_d26 : decode jdk_33_method_22_code 26 = .ok (.dup, 1) := by decide +kernel
theorem own_vo_d27 : decode jdk_33_method_22_code 27 = .ok (.iload_n 0, 1) := by decide +kernel
theorem own_vo_d28 : decode jdk_33_method_22_code 28 = .ok (.invokespecial 199, 3) := by decide +kernel
theorem own_vo_d31 : decode jdk_33_method_22_code 31 = .ok (.areturn, 1) := by decide +kernel
theorem own_vo_pn : plainName "java/lang/Integer" = true := by first | (simp [plainName, overriddenIn]; done) | decide +kernel
theorem own_vo_ef (m : MethodId) (pi : Int32) : entryFrame m #[(.int pi)] 1 = mkF m 0 #[iv pi] [] := by first | (simp [entryFrame, mkF, argsToLocals, Value.category]; done) | rfl
def own_vo_Q (Z : State) (pi : Int32) (ca : Addr) (h0 : Heap) (n0 : Nat) (v : Option Value) (h : Heap) (L : List Loc) : Prop := ∃ a, v = some (.ref a) ∧ Fr n0 L ∧ Keep h0 h [] ∧ Exa Z h a "java/lang/Integer" ∧ Fld Z h a "java/lang/Integer" "value" "I" (.int pi)
set_option maxRecDepth 65536 in
set_option maxHeartbeats 40000000 in
theorem own_vo (l : Launch) (Z : State) (a0 : Array Value) (hw : ∀ d ∈ tables_1, d.before a0 Z = true) (ws : List Jvm.Cond) (pi : Int32) (ca : Addr) (h0 : Heap) (n0 : Nat) (Z0 : n0 ≤ h0.size) (S1 : Sta Z h0 "java/lang/Integer$IntegerCache" "high" "I" (.int (127 : Int32))) (S2 : Sta Z h0 "java/lang/Integer$IntegerCache" "cache" "[Ljava/lang/Integer;" (.ref ca)) (hC : own_Cache Z h0 ca) :
    MetFree l own_y8 (head1 (Jvm.Cond.code own_y8 jdk_33_method_22_code 1 (some (.object "java/lang/Integer")) :: ws) ({ frames := 3, cells := 1, slots := 1, locals := 38 } : Room)) (fun a U => a = #[(.int pi)] ∧ Z.Warmed39 U.vm ∧ U.heap = h0) (fun _ _ _ _ _ => True) (fun _ U o U' => ∃ v L, o = .returned v ∧ (own_vo_Q Z pi ca h0 n0) v U'.heap L ∧ FrameEnd U o U' L ({ frames := 3, cells := 1, slots := 1, locals := 38 } : Room).cells ({ frames := 3, cells := 1, slots := 1, locals := 38 } : Room).slots) := by
  refine MetFree.of_bodySF (plainFor_of_name own_vo_pn) hisR ?_
  intro p e s m args below meth c s₁ Bd hml0 hP hK
  obtain ⟨rfl, hZ, hh⟩ := hP
  have hx := Bd.exec
  have hby := Bd.bytes
  have hml : c.maxLocals = 1 := hml0
  have hown : s.vm.findClass "java/lang/Integer" = some m.cls := findClass_of_methodNamed Bd.named
  have hnm := (name_of_methodNamed Bd.named Bd.method).1
  have hlk : meth.locks = false := Bd.notSynchronized
  have X0 : Stand p l e ({ frames := 3, cells := 1, slots := 1, locals := 38 } : Room) s m #[(.int pi)] below meth c s₁ [] 0 0 := Stand.of_body Bd
  have e0 : s₁.heap = h0 := by rw [← hh, Bd.state]; rfl
  have N0 := Fr.nil n0
  have w_58 := hw _ (List.mem_of_getElem? (l := tables_1) (i := 58) rfl)
  have w_60 := hw _ (List.mem_of_getElem? (l := tables_1) (i := 60) rfl)
  have w_62 := hw _ (List.mem_of_getElem? (l := tables_1) (i := 62) rfl)
  have w_65 := hw _ (List.mem_of_getElem? (l := tables_1) (i := 65) rfl)
  have w_66 := hw _ (List.mem_of_getElem? (l := tables_1) (i := 66) rfl)
  have w_67 := hw _ (List.mem_of_getElem? (l := tables_1) (i := 67) rfl)
  have w_68 := hw _ (List.mem_of_getElem? (l := tables_1) (i := 68) rfl)
  have w_70 := hw _ (List.mem_of_getElem? (l := tables_1) (i := 70) rfl)
  have w_79 := hw _ (List.mem_of_getElem? (l := tables_1) (i := 79) rfl)
  show own_G p.tables e below (fun o U' => ∃ v L, o = .returned v ∧ (own_vo_Q Z pi ca h0 n0) v U'.heap L ∧ FrameEnd s o U' L ({ frames := 3, cells := 1, slots := 1, locals := 38 } : Room).cells ({ frames := 3, cells := 1, slots := 1, locals := 38 } : Room).slots) (s₁.setTop (entryFrame m #[(.int pi)] 1))
  refine own_go (B := s₁.setTop (mkF m 0 #[iv pi] [])) (fun t k => castTop (own_vo_ef m pi) k) ?_
  have K0 := Keep.refl h0 []
  obtain ⟨Lc, hCA, hCL⟩ := hC
  refine own_go (B := (s₁.setTop (mkF m 1 #[iv pi] [(.int pi)]))) (fun t k => XS.iloadN X0.here hx rfl (hb hby own_vo_d0) rfl k) ?_
  refine own_go (B := (s₁.setTop (mkF m 3 #[iv pi] [(.int (-128 : Int32)), (.int pi)]))) (fun t k => own_bipush (v := (-128 : Int32)) X0.here hx rfl (hb hby own_vo_d1) (by decide) k) ?_
  refine own_icmp X0 hx (hb hby own_vo_d3) (pc' := 23) (pn := 6) (by decide) (by decide) rfl (fun (hc3 : pi < (-128 : Int32)) => ?_) (fun (hc3 : ¬ pi < (-128 : Int32)) => ?_)
  · obtain ⟨T1, h1, X1, e1, E1, A1, D1, U1, st1⟩ := newO X0 hx hZ hown w_65 w_66 w_58 e0 (g := (mkF m 23 #[iv pi] [])) rfl (hb hby own_vo_d23) (own_b rfl) (own_b rfl)
    obtain ⟨a1, ga1⟩ : ∃ z, z = h0.size := ⟨_, rfl⟩
    rw [← ga1] at A1 D1 U1 st1
    refine own_go (B := (T1.setTop (mkF m 26 #[iv pi] [(.ref a1)]))) st1 ?_
    have Z2 : n0 ≤ h1.size := Nat.le_trans Z0 E1.1
    have K3 := Keep.ext K0 E1
    have gn1 : n0 ≤ a1 := Nat.le_trans Z0 (Nat.le_of_eq ga1.symm)
    have F4 : Fld Z h1 a1 "java/lang/Integer" "value" "I" (.int (0 : Int32)) := D1 (Or.inr w_79) (ty := .int) (by decide)
    refine own_go (B := (T1.setTop (mkF m 27 #[iv pi] [(.ref a1), (.ref a1)]))) (fun t k => XS.dup X1.here hx rfl (hb hby own_vo_d26) rfl rfl k) ?_
    refine own_go (B := (T1.setTop (mkF m 28 #[iv pi] [(.int pi), (.ref a1), (.ref a1)]))) (fun t k => XS.iloadN X1.here hx rfl (hb hby own_vo_d27) rfl k) ?_
    obtain ⟨_, _, ⟨T5, L5, k5, n5⟩, -, X5, ⟨Lc5, hQ5, l5, y5, z5⟩, st5⟩ := X1.specialBack hx (y := own_y2) rfl hown (mvT hZ w_67) (mvT hZ w_68) (mvT hZ w_70) (by decide) (backOf (W := 1) (own_ict l Z a0 hw [] a1 pi h1 n0 Z2 A1 gn1 F4) hZ w_70 w_58 (by decide) (by decide)) (g := (mkF m 28 #[iv pi] [(.int pi), (.ref a1), (.ref a1)])) rfl (by rw [hml]; rfl) (Steps.refl _) (a := a1) (argsL := [(.int pi)]) (rest := [(.ref a1)]) (lenOf own_pd2 rfl) rfl (by show 2 * 0 + _ ≤ _; exact own_b rfl) (hb hby own_vo_d28) (fun _ _ => ⟨rfl, e1, (own_b rfl : 1 + 0 ≤ _), (own_b rfl : 1 + 0 ≤ _)⟩)
    dsimp only [Pt.U, Pt.locs, Pt.cells, Pt.slots] at X5 l5 y5 z5 st5 hQ5
    obtain ⟨rfl, Nq5, K5, Ex5, g0_5⟩ := hQ5
    obtain ⟨L5, X5, N5⟩ := own_absC (K := 1) (K' := 1) X5 l5 y5 z5 N0 Nq5
    have F6 : n0 ≤ T5.heap.size := Nat.le_trans Z2 K5.1
    have F7 := Keep.trans K3 K5 (allS (Or.inr (Nat.le_trans K0.1 (Nat.le_of_eq ga1.symm))) all0)
    have F8 := Exa.keep A1 K5
    refine own_tr (B := (T5.setTop (mkF m 31 #[iv pi] [(.ref a1)]))) st5 ?_
    exact own_retA X5 hx hlk Bd.returns rfl rfl (hb hby own_vo_d31) (own_b rfl) (own_b rfl) (Q := (own_vo_Q Z pi ca h0 n0)) ⟨a1, rfl, N5, F7, Ex5, g0_5⟩
  · refine own_go (B := (s₁.setTop (mkF m 7 #[iv pi] [(.int pi)]))) (fun t k => XS.iloadN X0.here hx rfl (hb hby own_vo_d6) rfl k) ?_
    obtain ⟨T10, X10, e10, st10⟩ := getS X0 hx hZ hown (host := "") w_60 Via.refl e0 S1 (g := (mkF m 7 #[iv pi] [(.int pi)])) rfl (hb hby own_vo_d7)
    refine own_go (B := (T10.setTop (mkF m 10 #[iv pi] [(.int (127 : Int32)), (.int pi)]))) st10 ?_
    refine own_icmp X10 hx (hb hby own_vo_d10) (pc' := 23) (pn := 13) (by decide) (by decide) rfl (fun (hc10 : (127 : Int32) < pi) => ?_) (fun (hc10 : ¬ (127 : Int32) < pi) => ?_)
    · obtain ⟨T11, h11, X11, e11, E11, A11, D11, U11, st11⟩ := newO X10 hx hZ hown w_65 w_66 w_58 e10 (g := (mkF m 23 #[iv pi] [])) rfl (hb hby own_vo_d23) (own_b rfl) (own_b rfl)
      obtain ⟨a11, ga11⟩ : ∃ z, z = h0.size := ⟨_, rfl⟩
      rw [← ga11] at A11 D11 U11 st11
      refine own_go (B := (T11.setTop (mkF m 26 #[iv pi] [(.ref a11)]))) st11 ?_
      have Z12 : n0 ≤ h11.size := Nat.le_trans Z0 E11.1
      have K13 := Keep.ext K0 E11
      have gn11 : n0 ≤ a11 := Nat.le_trans Z0 (Nat.le_of_eq ga11.symm)
      have F14 : Fld Z h11 a11 "java/lang/Integer" "value" "I" (.int (0 : Int32)) := D11 (Or.inr w_79) (ty := .int) (by decide)
      refine own_go (B := (T11.setTop (mkF m 27 #[iv pi] [(.ref a11), (.ref a11)]))) (fun t k => XS.dup X11.here hx rfl (hb hby own_vo_d26) rfl rfl k) ?_
      refine own_go (B := (T11.setTop (mkF m 28 #[iv pi] [(.int pi), (.ref a11), (.ref a11)]))) (fun t k => XS.iloadN X11.here hx rfl (hb hby own_vo_d27) rfl k) ?_
      obtain ⟨_, _, ⟨T15, L15, k15, n15⟩, -, X15, ⟨Lc15, hQ15, l15, y15, z15⟩, st15⟩ := X11.specialBack hx (y := own_y2) rfl hown (mvT hZ w_67) (mvT hZ w_68) (mvT hZ w_70) (by decide) (backOf (W := 1) (own_ict l Z a0 hw [] a11 pi h11 n0 Z12 A11 gn11 F14) hZ w_70 w_58 (by decide) (by decide)) (g := (mkF m 28 #[iv pi] [(.int pi), (.ref a11), (.ref a11)])) rfl (by rw [hml]; rfl) (Steps.refl _) (a := a11) (argsL := [(.int pi)]) (rest := [(.ref a11)]) (lenOf own_pd2 rfl) rfl (by show 2 * 0 + _ ≤ _; exact own_b rfl) (hb hby own_vo_d28) (fun _ _ => ⟨rfl, e11, (own_b rfl : 1 + 0 ≤ _), (own_b rfl : 1 + 0 ≤ _)⟩)
      dsimp only [Pt.U, Pt.locs, Pt.cells, Pt.slots] at X15 l15 y15 z15 st15 hQ15
      obtain ⟨rfl, Nq15, K15, Ex15, g0_15⟩ := hQ15
      obtain ⟨L15, X15, N15⟩ := own_absC (K := 1) (K' := 1) X15 l15 y15 z15 N0 Nq15
      have F16 : n0 ≤ T15.heap.size := Nat.le_trans Z12 K15.1
      have F17 := Keep.trans K13 K15 (allS (Or.inr (Nat.le_trans K0.1 (Nat.le_of_eq ga11.symm))) all0)
      have F18 := Exa.keep A11 K15
      refine own_tr (B := (T15.setTop (mkF m 31 #[iv pi] [(.ref a11)]))) st15 ?_
      exact own_retA X15 hx hlk Bd.returns rfl rfl (hb hby own_vo_d31) (own_b rfl) (own_b rfl) (Q := (own_vo_Q Z pi ca h0 n0)) ⟨a11, rfl, N15, F17, Ex15, g0_15⟩
    · obtain ⟨T20, X20, e20, st20⟩ := getS X10 hx hZ hown (host := "") w_62 Via.refl e10 S2 (g := (mkF m 13 #[iv pi] [])) rfl (hb hby own_vo_d13)
      refine own_go (B := (T20.setTop (mkF m 16 #[iv pi] [(.ref ca)]))) st20 ?_
      refine own_go (B := (T20.setTop (mkF m 17 #[iv pi] [(.int pi), (.ref ca)]))) (fun t k => XS.iloadN X20.here hx rfl (hb hby own_vo_d16) rfl k) ?_
      refine own_go (B := (T20.setTop (mkF m 20 #[iv pi] [(.int (128 : Int32)), (.int pi), (.ref ca)]))) (fun t k => own_sipush (v := (128 : Int32)) X20.here hx rfl (hb hby own_vo_d17) (by decide) k) ?_
      refine own_go (B := (T20.setTop (mkF m 21 #[iv pi] [(.int (pi + (128 : Int32))), (.ref ca)]))) (fun t k => XS.iadd (x := pi) (y := (128 : Int32)) X20.here hx rfl (hb hby own_vo_d20) rfl k) ?_
      obtain ⟨y, hy1, hy2, hy3⟩ := hCL _ hc3 hc10
      refine own_go (B := (T20.setTop (mkF m 22 #[iv pi] [(.ref y)]))) (own_ldR X20 hx hZ e20 hCA rfl (v := (.ref y)) (own_j128 hc3 hc10) hy1 (g := (mkF m 21 #[iv pi] [(.int (pi + (128 : Int32))), (.ref ca)])) rfl rfl (hb hby own_vo_d21)) ?_
      exact own_retA X20 hx hlk Bd.returns rfl rfl (hb hby own_vo_d22) (own_b rfl) (own_b rfl) (Q := (own_vo_Q Z pi ca h0 n0)) (by rw [e20]; exact ⟨y, rfl, N0, K0, hy2, hy3⟩)

theorem own_fill_d0 : decode jdk_65_method_103_code 0 = .ok (.iconst 0, 1) := by decide +kernel
theorem own_fill_d1 : decode jdk_65_method_103_code 1 = .ok (.istore_n 2, 1) := by decide +kernel
theorem own_fill_d2 : decode jdk_65_method_103_code 2 = .ok (.aload_n 0, 1) := by decide +kernel
theorem own_fill_d3 : decode jdk_65_method_103_code 3 = .ok (.arraylength, 1) := by decide +kernel
theorem own_fill_d4 : decode jdk_65_method_103_code 4 = .ok (.istore_n 3, 1) := by decide +kernel
theorem own_fill_d5 : decode jdk_65_method_103_code 5 = .ok (.iload_n 2, 1) := by decide +kernel
theorem own_fill_d6 : decode jdk_65_method_103_code 6 = .ok (.iload_n 3, 1) := by decide +kernel
theorem own_fill_d7 : decode jdk_65_method_103_code 7 = .ok (.if_icmp .ge 13, 3) := by decide +kernel
theorem own_fill_d10 : decode jdk_65_method_103_code 10 = .ok (.aload_n 0, 1) := by decide +kernel
theorem own_fill_d11 : decode jdk_65_method_103_code 11 = .ok (.iload_n 2, 1) := by decide +kernel
theorem own_fill_d12 : decode jdk_65_method_103_code 12 = .ok (.iload_n 1, 1) := by decide +kernel
theorem own_fill_d13 : decode jdk_65_method_103_code 13 = .ok (.iastore, 1) := by decide +kernel
theorem own_fill_d14 : decode jdk_65_method_103_code 14 = .ok (.iinc 2 1, 3) := by decide +kernel
theorem own_fill_d17 : decode jdk_65_method_103_code 17 = .ok (.goto (-12), 3) := by decide +kernel
theorem own_fill_d20 : decode jdk_65_method_103_code 20 = .ok (.return_, 1) := by decide +kernel
theorem own_fill_pn : plainName "java/util/Arrays" = true := by first | (simp [plainName, overriddenIn]; done) | decide +kernel
theorem own_fill_ef (m : MethodId) (ar : Addr) (pv : Int32) : entryFrame m #[(.ref ar), (.int pv)] 4 = mkF m 0 #[rv ar, iv pv, .unset, .unset] [] := by first | (simp [entryFrame, mkF, argsToLocals, Value.category]; done) | rfl
def own_fill_Q (Z : State) (ar : Addr) (pv : Int32) (nn : Nat) (h0 : Heap) (n0 : Nat) (v : Option Value) (h : Heap) (L : List Loc) : Prop := v = none ∧ Fr n0 L ∧ Keep h0 h [ar]
set_option maxRecDepth 65536 in
set_option maxHeartbeats 40000000 in
theorem own_fill (l : Launch) (Z : State) (a0 : Array Value) (hw : ∀ d ∈ tables_1, d.before a0 Z = true) (ws : List Jvm.Cond) (ar : Addr) (pv : Int32) (nn : Nat) (h0 : Heap) (n0 : Nat) (Z0 : n0 ≤ h0.size) (V0 : own_An Z h0 ar nn) (g0 : n0 ≤ ar) (hN : nn < 2147483648) :
    MetFree l own_y3 (head1 (Jvm.Cond.code own_y3 jdk_65_method_103_code 4 none :: ws) ({ frames := 0, cells := 0, slots := 0, locals := 0 } : Room)) (fun a U => a = #[(.ref ar), (.int pv)] ∧ Z.Warmed39 U.vm ∧ U.heap = h0) (fun _ _ _ _ _ => True) (fun _ U o U' => ∃ v L, o = .returned v ∧ (own_fill_Q Z ar pv nn h0 n0) v U'.heap L ∧ FrameEnd U o U' L ({ frames := 0, cells := 0, slots := 0, locals := 0 } : Room).cells ({ frames := 0, cells := 0, slots := 0, locals := 0 } : Room).slots) := by
  refine MetFree.of_bodySF (plainFor_of_name own_fill_pn) hisR ?_
  intro p e s m args below meth c s₁ Bd hml0 hP hK
  obtain ⟨rfl, hZ, hh⟩ := hP
  have hx := Bd.exec
  have hby := Bd.bytes
  have hml : c.maxLocals = 4 := hml0
  have hown : s.vm.findClass "java/util/Arrays" = some m.cls := findClass_of_methodNamed Bd.named
  have hnm := (name_of_methodNamed Bd.named Bd.method).1
  have hlk : meth.locks = false := Bd.notSynchronized
  have X0 : Stand p l e ({ frames := 0, cells := 0, slots := 0, locals := 0 } : Room) s m #[(.ref ar), (.int pv)] below meth c s₁ [] 0 0 := Stand.of_body Bd
  have e0 : s₁.heap = h0 := by rw [← hh, Bd.state]; rfl
  have N0 := Fr.nil n0
  show own_G p.tables e below (fun o U' => ∃ v L, o = .returned v ∧ (own_fill_Q Z ar pv nn h0 n0) v U'.heap L ∧ FrameEnd s o U' L ({ frames := 0, cells := 0, slots := 0, locals := 0 } : Room).cells ({ frames := 0, cells := 0, slots := 0, locals := 0 } : Room).slots) (s₁.setTop (entryFrame m #[(.ref ar), (.int pv)] 4))
  refine own_go (B := s₁.setTop (mkF m 0 #[rv ar, iv pv, .unset, .unset] [])) (fun t k => castTop (own_fill_ef m ar pv) k) ?_
  have K0 := Keep.refl h0 [ar]
  refine own_go (B := (s₁.setTop (mkF m 1 #[rv ar, iv pv, .unset, .unset] [(.int (0 : Int32))]))) (fun t k => own_iconst (v := (0 : Int32)) X0.here hx rfl (hb hby own_fill_d0) (by decide) k) ?_
  refine own_go (B := (s₁.setTop (mkF m 2 #[rv ar, iv pv, iv (0 : Int32), .unset] []))) (fun t k => XS.istoreN X0.here hx rfl (hb hby own_fill_d1) rfl (l' := #[rv ar, iv pv, iv (0 : Int32), .unset]) rfl k) ?_
  refine own_go (B := (s₁.setTop (mkF m 3 #[rv ar, iv pv, iv (0 : Int32), .unset] [(.ref ar)]))) (fun t k => XS.aloadN X0.here hx rfl (hb hby own_fill_d2) rfl rfl k) ?_
  refine own_go (B := (s₁.setTop (mkF m 4 #[rv ar, iv pv, iv (0 : Int32), .unset] [(.int (nn.toInt32))]))) (own_alenN X0 hx hZ e0 V0 (g := (mkF m 3 #[rv ar, iv pv, iv (0 : Int32), .unset] [(.ref ar)])) rfl rfl (hb hby own_fill_d3)) ?_
  obtain ⟨z4, hz4⟩ : ∃ z : Int32, z = (nn.toInt32) := ⟨_, rfl⟩
  rw [← hz4]
  refine own_go (B := (s₁.setTop (mkF m 5 #[rv ar, iv pv, iv (0 : Int32), iv z4] []))) (fun t k => XS.istoreN X0.here hx rfl (hb hby own_fill_d4) rfl (l' := #[rv ar, iv pv, iv (0 : Int32), iv z4]) rfl k) ?_
  have LOOP : ∀ (kk : Nat) (ii : Int32) (Tq : State) (Lq : List Loc) (hq : Heap) (Xq : Stand p l e ({ frames := 0, cells := 0, slots := 0, locals := 0 } : Room) s m #[(.ref ar), (.int pv)] below meth c Tq Lq 0 0) (eq0 : Tq.heap = hq) (Nq0 : Fr n0 Lq) (Fq0 : n0 ≤ hq.size) (Fq1 : Keep h0 hq [ar]) (Fq2 : own_An Z hq ar nn) (q1 : ¬ ii < 0) (q2 : ii.toInt + kk = nn), own_G p.tables e below (fun o U' => ∃ v L, o = .returned v ∧ (own_fill_Q Z ar pv nn h0 n0) v U'.heap L ∧ FrameEnd s o U' L ({ frames := 0, cells := 0, slots := 0, locals := 0 } : Room).cells ({ frames := 0, cells := 0, slots := 0, locals := 0 } : Room).slots) (Tq.setTop (mkF m 5 #[rv ar, iv pv, iv ii, iv (nn.toInt32)] [])) := by
    intro kk
    induction kk with
    | zero =>
      intro ii Tq Lq hq Xq eq0 Nq0 Fq0 Fq1 Fq2 q1 q2
      refine own_go (B := (Tq.setTop (mkF m 6 #[rv ar, iv pv, iv ii, iv (nn.toInt32)] [(.int ii)]))) (fun t k => XS.iloadN Xq.here hx rfl (hb hby own_fill_d5) rfl k) ?_
      refine own_go (B := (Tq.setTop (mkF m 7 #[rv ar, iv pv, iv ii, iv (nn.toInt32)] [(.int (nn.toInt32)), (.int ii)]))) (fun t k => XS.iloadN Xq.here hx rfl (hb hby own_fill_d6) rfl k) ?_
      have hc7 : ¬ ii < (nn.toInt32) := (own_l0 hN q1 q2)
      refine own_icmpY Xq hx (hb hby own_fill_d7) (pc' := 20) (by decide) (by decide) hc7 ?_
      exact own_retV Xq hx hlk Bd.returns (hb hby own_fill_d20) (own_b rfl) (own_b rfl) (Q := (own_fill_Q Z ar pv nn h0 n0)) (by rw [eq0]; exact ⟨rfl, Nq0, Fq1⟩)
    | succ kk ih =>
      intro ii Tq Lq hq Xq eq0 Nq0 Fq0 Fq1 Fq2 q1 q2
      refine own_go (B := (Tq.setTop (mkF m 6 #[rv ar, iv pv, iv ii, iv (nn.toInt32)] [(.int ii)]))) (fun t k => XS.iloadN Xq.here hx rfl (hb hby own_fill_d5) rfl k) ?_
      refine own_go (B := (Tq.setTop (mkF m 7 #[rv ar, iv pv, iv ii, iv (nn.toInt32)] [(.int (nn.toInt32)), (.int ii)]))) (fun t k => XS.iloadN Xq.here hx rfl (hb hby own_fill_d6) rfl k) ?_
      have hc7 : ii < (nn.toInt32) := (own_l1 hN q1 q2)
      refine own_icmpN Xq hx (hb hby own_fill_d7) (pn := 10) rfl hc7 ?_
      refine own_go (B := (Tq.setTop (mkF m 11 #[rv ar, iv pv, iv ii, iv (nn.toInt32)] [(.ref ar)]))) (fun t k => XS.aloadN Xq.here hx rfl (hb hby own_fill_d10) rfl rfl k) ?_
      refine own_go (B := (Tq.setTop (mkF m 12 #[rv ar, iv pv, iv ii, iv (nn.toInt32)] [(.int ii), (.ref ar)]))) (fun t k => XS.iloadN Xq.here hx rfl (hb hby own_fill_d11) rfl k) ?_
      refine own_go (B := (Tq.setTop (mkF m 13 #[rv ar, iv pv, iv ii, iv (nn.toInt32)] [(.int pv), (.int ii), (.ref ar)]))) (fun t k => XS.iloadN Xq.here hx rfl (hb hby own_fill_d12) rfl k) ?_
      obtain ⟨T1, h1, X1, e1, W1, V1, st1⟩ := own_stN Xq hx hZ eq0 Fq2 q1 (own_l2 q1 q2) (g := (mkF m 13 #[rv ar, iv pv, iv ii, iv (nn.toInt32)] [(.int pv), (.int ii), (.ref ar)])) rfl rfl (hb hby own_fill_d13)
      refine own_go (B := (T1.setTop (mkF m 14 #[rv ar, iv pv, iv ii, iv (nn.toInt32)] []))) st1 ?_
      obtain ⟨L1, X1, N1⟩ := own_abs X1 (Fr.snoc X1 Nq0 g0)
      have F2 : n0 ≤ h1.size := by rw [W1.size]; exact Fq0
      have F3 := Keep.wr Fq1 W1 (Or.inl (List.mem_of_getElem? (i := 0) rfl))
      refine own_go (B := (T1.setTop (mkF m 17 #[rv ar, iv pv, iv (ii + (1 : Int32)), iv (nn.toInt32)] []))) (fun t k => XS.iinc X1.here hx rfl (hb hby own_fill_d14) rfl (l' := #[rv ar, iv pv, iv (ii + (1 : Int32)), iv (nn.toInt32)]) rfl k) ?_
      refine own_go (B := (T1.setTop (mkF m 5 #[rv ar, iv pv, iv (ii + (1 : Int32)), iv (nn.toInt32)] []))) (fun t k => XS.goto X1.here hx rfl (pc0 := 17) (pc' := 5) rfl (hb hby own_fill_d17) (by decide) (by decide) k) ?_
      exact ih (ii + (1 : Int32)) T1 _ h1 X1 e1 N1 F2 F3 V1 (own_l3 hN q1 q2).1 (own_l3 hN q1 q2).2
  rw [hz4]
  exact LOOP nn (0 : Int32) s₁ _ h0 X0 e0 N0 Z0 K0 V0 (by decide) (by rw [show (0 : Int32).toInt = 0 from by decide]; omega)

theorem own_cc_d0 : decode prog_93_method_14_code 0 = .ok (.aload_n 0, 1) := by decide +kernel
theorem own_cc_d1 : decode prog_93_method_14_code 1 = .ok (.iload_n 1, 1) := by decide +kernel
theorem own_cc_d2 : decode prog_93_method_14_code 2 = .ok (.newarray .int, 2) := by decide +kernel
theorem own_cc_d4 : decode prog_93_method_14_code 4 = .ok (.putfield 58, 3) := by decide +kernel
theorem own_cc_d7 : decode prog_93_method_14_code 7 = .ok (.aload_n 0, 1) := by decide +kernel
theorem own_cc_d8 : decode prog_93_method_14_code 8 = .ok (.getfield 58, 3) := by decide +kernel
theorem own_cc_d11 : decode prog_93_method_14_code 11 = .ok (.iconst (-1), 1) := by decide +kernel
theorem own_cc_d12 : decode prog_93_method_14_code 12 = .ok (.invokestatic 26, 3) := by decide +kernel
theorem own_cc_d15 : decode prog_93_method_14_code 15 = .ok (.aload_n 0, 1) := by decide +kernel
theorem own_cc_d16 : decode prog_93_method_14_code 16 = .ok (.iload_n 1, 1) := by decide +kernel
theorem own_cc_d17 : decode prog_93_method_14_code 17 = .ok (.newarray .int, 2) := by decide +kernel
theorem own_cc_d19 : decode prog_93_method_14_code 19 = .ok (.putfield 61, 3) := by decide +kernel
theorem own_cc_d22 : decode prog_93_method_14_code 22 = .ok (.aload_n 0, 1) := by decide +kernel
theorem own_cc_d23 : decode prog_93_method_14_code 23 = .ok (.iload_n 1, 1) := by decide +kernel
theorem own_cc_d24 : decode prog_93_method_14_code 24 = .ok (.newarray .int, 2) := by decide +kernel
theorem own_cc_d26 : decode prog_93_method_14_code 26 = .ok (.putfield 64, 3) := by decide +kernel
theorem own_cc_d29 : decode prog_93_method_14_code 29 = .ok (.aload_n 0, 1) := by decide +kernel
theorem own_cc_d30 : decode prog_93_method_14_code 30 = .ok (.iload_n 1, 1) := by decide +kernel
theorem own_cc_d31 : decode prog_93_method_14_code 31 = .ok (.newarray .int, 2) := by decide +kernel
theorem own_cc_d33 : decode prog_93_method_14_code 33 = .ok (.putfield 67, 3) := by decide +kernel
theorem own_cc_d36 : decode prog_93_method_14_code 36 = .ok (.return_, 1) := by decide +kernel
theorem own_cc_pn : plainName "com/example/parts_to_policy/partstopolicy/policy/Bdd" = true := by first | (simp [plainName, overriddenIn]; done) | decide +kernel
theorem own_cc_ef (m : MethodId) (th : Addr) : entryFrame m #[(.ref th), (.int (4096 : Int32))] 2 = mkF m 0 #[rv th, iv (4096 : Int32)] [] := by first | (simp [entryFrame, mkF, argsToLocals, Value.category]; done) | rfl
def own_cc_Q (Z : State) (th : Addr) (h0 : Heap) (n0 : Nat) (v : Option Value) (h : Heap) (L : List Loc) : Prop := v = none ∧ Fr n0 L ∧ Keep h0 h [th] ∧ Exa Z h th "com/example/parts_to_policy/partstopolicy/policy/Bdd"
set_option maxRecDepth 65536 in
set_option maxHeartbeats 40000000 in
theorem own_cc (l : Launch) (Z : State) (a0 : Array Value) (hw : ∀ d ∈ tables_1, d.before a0 Z = true) (ws : List Jvm.Cond) (th : Addr) (h0 : Heap) (n0 : Nat) (Z0 : n0 ≤ h0.size) (E0 : Exa Z h0 th "com/example/parts_to_policy/partstopolicy/policy/Bdd") (g0 : n0 ≤ th) (F9000 : Fld Z h0 th "com/example/parts_to_policy/partstopolicy/policy/Bdd" "cacheOp" "[I" .null) (F9001 : Fld Z h0 th "com/example/parts_to_policy/partstopolicy/policy/Bdd" "cacheLeft" "[I" .null) (F9002 : Fld Z h0 th "com/example/parts_to_policy/partstopolicy/policy/Bdd" "cacheRight" "[I" .null) (F9003 : Fld Z h0 th "com/example/parts_to_policy/partstopolicy/policy/Bdd" "cacheResult" "[I" .null) :
    MetFree l own_y4 (head1 (Jvm.Cond.code own_y4 prog_93_method_14_code 2 none :: ws) ({ frames := 1, cells := 4, slots := 16384, locals := 15 } : Room)) (fun a U => a = #[(.ref th), (.int (4096 : Int32))] ∧ Z.Warmed39 U.vm ∧ U.heap = h0) (fun _ _ _ _ _ => True) (fun _ U o U' => ∃ v L, o = .returned v ∧ (own_cc_Q Z th h0 n0) v U'.heap L ∧ FrameEnd U o U' L ({ frames := 1, cells := 4, slots := 16384, locals := 15 } : Room).cells ({ frames := 1, cells := 4, slots := 16384, locals := 15 } : Room).slots) := by
  refine MetFree.of_bodySF (plainFor_of_name own_cc_pn) hisR ?_
  intro p e s m args below meth c s₁ Bd hml0 hP hK
  obtain ⟨rfl, hZ, hh⟩ := hP
  have hx := Bd.exec
  have hby := Bd.bytes
  have hml : c.maxLocals = 2 := hml0
  have hown : s.vm.findClass "com/example/parts_to_policy/partstopolicy/policy/Bdd" = some m.cls := findClass_of_methodNamed Bd.named
  have hnm := (name_of_methodNamed Bd.named Bd.method).1
  have hlk : meth.locks = false := Bd.notSynchronized
  have X0 : Stand p l e ({ frames := 1, cells := 4, slots := 16384, locals := 15 } : Room) s m #[(.ref th), (.int (4096 : Int32))] below meth c s₁ [] 0 0 := Stand.of_body Bd
  have e0 : s₁.heap = h0 := by rw [← hh, Bd.state]; rfl
  have N0 := Fr.nil n0
  have w_1 := hw _ (List.mem_of_getElem? (l := tables_1) (i := 1) rfl)
  have w_9 := hw _ (List.mem_of_getElem? (l := tables_1) (i := 9) rfl)
  have w_20 := hw _ (List.mem_of_getElem? (l := tables_1) (i := 20) rfl)
  have w_21 := hw _ (List.mem_of_getElem? (l := tables_1) (i := 21) rfl)
  have w_22 := hw _ (List.mem_of_getElem? (l := tables_1) (i := 22) rfl)
  have w_23 := hw _ (List.mem_of_getElem? (l := tables_1) (i := 23) rfl)
  have w_28 := hw _ (List.mem_of_getElem? (l := tables_1) (i := 28) rfl)
  have w_29 := hw _ (List.mem_of_getElem? (l := tables_1) (i := 29) rfl)
  have w_30 := hw _ (List.mem_of_getElem? (l := tables_1) (i := 30) rfl)
  have w_31 := hw _ (List.mem_of_getElem? (l := tables_1) (i := 31) rfl)
  have w_32 := hw _ (List.mem_of_getElem? (l := tables_1) (i := 32) rfl)
  have w_33 := hw _ (List.mem_of_getElem? (l := tables_1) (i := 33) rfl)
  have w_34 := hw _ (List.mem_of_getElem? (l := tables_1) (i := 34) rfl)
  have w_35 := hw _ (List.mem_of_getElem? (l := tables_1) (i := 35) rfl)
  show own_G p.tables e below (fun o U' => ∃ v L, o = .returned v ∧ (own_cc_Q Z th h0 n0) v U'.heap L ∧ FrameEnd s o U' L ({ frames := 1, cells := 4, slots := 16384, locals := 15 } : Room).cells ({ frames := 1, cells := 4, slots := 16384, locals := 15 } : Room).slots) (s₁.setTop (entryFrame m #[(.ref th), (.int (4096 : Int32))] 2))
  refine own_go (B := s₁.setTop (mkF m 0 #[rv th, iv (4096 : Int32)] [])) (fun t k => castTop (own_cc_ef m th) k) ?_
  have K0 := Keep.refl h0 [th]
  refine own_go (B := (s₁.setTop (mkF m 1 #[rv th, iv (4096 : Int32)] [(.ref th)]))) (fun t k => XS.aloadN X0.here hx rfl (hb hby own_cc_d0) rfl rfl k) ?_
  refine own_go (B := (s₁.setTop (mkF m 2 #[rv th, iv (4096 : Int32)] [(.int (4096 : Int32)), (.ref th)]))) (fun t k => XS.iloadN X0.here hx rfl (hb hby own_cc_d1) rfl k) ?_
  obtain ⟨T1, h1, c1, X1, e1, E1, A1, st1⟩ := newP X0 hx hZ (aty := .int) w_9 e0 (g := (mkF m 2 #[rv th, iv (4096 : Int32)] [(.int (4096 : Int32)), (.ref th)])) rfl (hb hby own_cc_d2) rfl (by decide) (cap := 4096) (by decide) (by decide) (own_b rfl) (own_b rfl)
  obtain ⟨a1, ga1⟩ : ∃ z, z = h0.size := ⟨_, rfl⟩
  rw [← ga1] at A1 st1
  refine own_go (B := (T1.setTop (mkF m 4 #[rv th, iv (4096 : Int32)] [(.ref a1), (.ref th)]))) st1 ?_
  have Z2 : n0 ≤ h1.size := Nat.le_trans Z0 E1.1
  have F3 := Exa.ext E1 E0
  have K4 := Keep.ext K0 E1
  have F5 := Fld.ext E1 F9000
  have F6 := Fld.ext E1 F9001
  have F7 := Fld.ext E1 F9002
  have F8 := Fld.ext E1 F9003
  have gn1 : n0 ≤ a1 := Nat.le_trans Z0 (Nat.le_of_eq ga1.symm)
  have ne1_th : a1 ≠ th := fun q => absurd (E0.lt) (by rw [← q, ga1]; exact Nat.lt_irrefl _)
  have V1 : own_An Z h1 a1 4096 := own_An_new A1 (by decide)
  obtain ⟨T9, h9, X9, e9, W9, st9⟩ := putF X1 hx hZ hown (host := "") (Or.inl w_28) Via.refl e1 F5 F3 (Or.inl w_29) w_1 (ty := (.array .int)) (by decide) rfl rfl (g := (mkF m 4 #[rv th, iv (4096 : Int32)] [(.ref a1), (.ref th)])) rfl rfl (hb hby own_cc_d4)
  refine own_go (B := (T9.setTop (mkF m 7 #[rv th, iv (4096 : Int32)] []))) st9 ?_
  obtain ⟨L9, X9, N9⟩ := own_abs X9 (Fr.snoc X9 N0 g0)
  have F10 : n0 ≤ h9.size := by rw [W9.size]; exact Z2
  have F11 := Exa.wr W9 F3
  have F12 := Keep.wr K4 W9 (Or.inl (List.mem_of_getElem? (i := 0) rfl))
  have F13 := Fld.same W9 F5
  have F14 := Fld.other W9 F6 (Or.inr (slot_ne (t := (.array .int)) (t' := (.array .int)) (Or.inl w_31) (Or.inl w_29) (by decide) (by decide) (by decide)))
  have F15 := Fld.other W9 F7 (Or.inr (slot_ne (t := (.array .int)) (t' := (.array .int)) (Or.inl w_33) (Or.inl w_29) (by decide) (by decide) (by decide)))
  have F16 := Fld.other W9 F8 (Or.inr (slot_ne (t := (.array .int)) (t' := (.array .int)) (Or.inl w_35) (Or.inl w_29) (by decide) (by decide) (by decide)))
  have F17 := own_An_other V1 W9 ne1_th
  refine own_go (B := (T9.setTop (mkF m 8 #[rv th, iv (4096 : Int32)] [(.ref th)]))) (fun t k => XS.aloadN X9.here hx rfl (hb hby own_cc_d7) rfl rfl k) ?_
  obtain ⟨T18, X18, e18, st18⟩ := getF X9 hx hZ hown (host := "") (Or.inl w_28) Via.refl e9 F13 (g := (mkF m 8 #[rv th, iv (4096 : Int32)] [(.ref th)])) rfl rfl (hb hby own_cc_d8)
  refine own_go (B := (T18.setTop (mkF m 11 #[rv th, iv (4096 : Int32)] [(.ref a1)]))) st18 ?_
  refine own_go (B := (T18.setTop (mkF m 12 #[rv th, iv (4096 : Int32)] [(.int (-1 : Int32)), (.ref a1)]))) (fun t k => own_iconst (v := (-1 : Int32)) X18.here hx rfl (hb hby own_cc_d11) (by decide) k) ?_
  obtain ⟨_, _, ⟨T19, L19, k19, n19⟩, -, X19, ⟨Lc19, hQ19, l19, y19, z19⟩, st19⟩ := Jvm.LawKit.callS X18 hx (y := own_y3) hown (mvT hZ w_20) (mvT hZ w_21) (mvT hZ w_22) (mvT hZ w_23) (by decide) (backOf (W := 0) (own_fill l Z a0 hw [] a1 (-1 : Int32) 4096 h9 n0 F10 F17 gn1 (by decide)) hZ w_23 w_22 (by decide) (by decide)) (g := (mkF m 12 #[rv th, iv (4096 : Int32)] [(.int (-1 : Int32)), (.ref a1)])) rfl (by rw [hml]; rfl) (argsL := [(.ref a1), (.int (-1 : Int32))]) (rest := []) (lenOf own_pd3 rfl) rfl (by show 2 * 0 + _ ≤ _; exact own_b rfl) (hb hby own_cc_d12) (fun _ _ => ⟨rfl, e18, (own_b rfl : 1 + 0 ≤ _), (own_b rfl : 4096 + 0 ≤ _)⟩)
  dsimp only [Pt.U, Pt.locs, Pt.cells, Pt.slots] at X19 l19 y19 z19 st19 hQ19
  obtain ⟨rfl, Nq19, K19⟩ := hQ19
  obtain ⟨L19, X19, N19⟩ := own_absC (K := 1) (K' := 4096) X19 l19 y19 z19 N9 Nq19
  have F20 : n0 ≤ T19.heap.size := Nat.le_trans F10 K19.1
  have F21 := Exa.keep F11 K19
  have F22 := Keep.trans F12 K19 (allS (Or.inr (Nat.le_trans K0.1 (Nat.le_of_eq ga1.symm))) all0)
  have F23 := Fld.keep F13 K19 (ninS (Ne.symm ne1_th) nin0)
  have F24 := Fld.keep F14 K19 (ninS (Ne.symm ne1_th) nin0)
  have F25 := Fld.keep F15 K19 (ninS (Ne.symm ne1_th) nin0)
  have F26 := Fld.keep F16 K19 (ninS (Ne.symm ne1_th) nin0)
  refine own_go (B := (T19.setTop (mkF m 15 #[rv th, iv (4096 : Int32)] []))) st19 ?_
  refine own_go (B := (T19.setTop (mkF m 16 #[rv th, iv (4096 : Int32)] [(.ref th)]))) (fun t k => XS.aloadN X19.here hx rfl (hb hby own_cc_d15) rfl rfl k) ?_
  refine own_go (B := (T19.setTop (mkF m 17 #[rv th, iv (4096 : Int32)] [(.int (4096 : Int32)), (.ref th)]))) (fun t k => XS.iloadN X19.here hx rfl (hb hby own_cc_d16) rfl k) ?_
  obtain ⟨T28, h28, c28, X28, e28, E28, A28, st28⟩ := newP X19 hx hZ (aty := .int) w_9 rfl (g := (mkF m 17 #[rv th, iv (4096 : Int32)] [(.int (4096 : Int32)), (.ref th)])) rfl (hb hby own_cc_d17) rfl (by decide) (cap := 4096) (by decide) (by decide) (own_b rfl) (own_b rfl)
  obtain ⟨a28, ga28⟩ : ∃ z, z = T19.heap.size := ⟨_, rfl⟩
  rw [← ga28] at A28 st28
  refine own_go (B := (T28.setTop (mkF m 19 #[rv th, iv (4096 : Int32)] [(.ref a28), (.ref th)]))) st28 ?_
  have Z29 : n0 ≤ h28.size := Nat.le_trans F20 E28.1
  have F30 := Exa.ext E28 F21
  have K31 := Keep.ext F22 E28
  have F32 := Fld.ext E28 F23
  have F33 := Fld.ext E28 F24
  have F34 := Fld.ext E28 F25
  have F35 := Fld.ext E28 F26
  have gn28 : n0 ≤ a28 := Nat.le_trans F20 (Nat.le_of_eq ga28.symm)
  have ne28_th : a28 ≠ th := fun q => absurd (F21.lt) (by rw [← q, ga28]; exact Nat.lt_irrefl _)
  have V28 : own_An Z h28 a28 4096 := own_An_new A28 (by decide)
  obtain ⟨T36, h36, X36, e36, W36, st36⟩ := putF X28 hx hZ hown (host := "") (Or.inl w_30) Via.refl e28 F33 F30 (Or.inl w_31) w_1 (ty := (.array .int)) (by decide) rfl rfl (g := (mkF m 19 #[rv th, iv (4096 : Int32)] [(.ref a28), (.ref th)])) rfl rfl (hb hby own_cc_d19)
  refine own_go (B := (T36.setTop (mkF m 22 #[rv th, iv (4096 : Int32)] []))) st36 ?_
  obtain ⟨L36, X36, N36⟩ := own_abs X36 (Fr.snoc X36 N19 g0)
  have F37 : n0 ≤ h36.size := by rw [W36.size]; exact Z29
  have F38 := Exa.wr W36 F30
  have F39 := Keep.wr K31 W36 (Or.inl (List.mem_of_getElem? (i := 0) rfl))
  have F40 := Fld.other W36 F32 (Or.inr (slot_ne (t := (.array .int)) (t' := (.array .int)) (Or.inl w_29) (Or.inl w_31) (by decide) (by decide) (by decide)))
  have F41 := Fld.same W36 F33
  have F42 := Fld.other W36 F34 (Or.inr (slot_ne (t := (.array .int)) (t' := (.array .int)) (Or.inl w_33) (Or.inl w_31) (by decide) (by decide) (by decide)))
  have F43 := Fld.other W36 F35 (Or.inr (slot_ne (t := (.array .int)) (t' := (.array .int)) (Or.inl w_35) (Or.inl w_31) (by decide) (by decide) (by decide)))
  have F44 := own_An_other V28 W36 ne28_th
  refine own_go (B := (T36.setTop (mkF m 23 #[rv th, iv (4096 : Int32)] [(.ref th)]))) (fun t k => XS.aloadN X36.here hx rfl (hb hby own_cc_d22) rfl rfl k) ?_
  refine own_go (B := (T36.setTop (mkF m 24 #[rv th, iv (4096 : Int32)] [(.int (4096 : Int32)), (.ref th)]))) (fun t k => XS.iloadN X36.here hx rfl (hb hby own_cc_d23) rfl k) ?_
  obtain ⟨T45, h45, c45, X45, e45, E45, A45, st45⟩ := newP X36 hx hZ (aty := .int) w_9 e36 (g := (mkF m 24 #[rv th, iv (4096 : Int32)] [(.int (4096 : Int32)), (.ref th)])) rfl (hb hby own_cc_d24) rfl (by decide) (cap := 4096) (by decide) (by decide) (own_b rfl) (own_b rfl)
  obtain ⟨a45, ga45⟩ : ∃ z, z = h36.size := ⟨_, rfl⟩
  rw [← ga45] at A45 st45
  refine own_go (B := (T45.setTop (mkF m 26 #[rv th, iv (4096 : Int32)] [(.ref a45), (.ref th)]))) st45 ?_
  have Z46 : n0 ≤ h45.size := Nat.le_trans F37 E45.1
  have F47 := Exa.ext E45 F38
  have K48 := Keep.ext F39 E45
  have F49 := Fld.ext E45 F40
  have F50 := Fld.ext E45 F41
  have F51 := Fld.ext E45 F42
  have F52 := Fld.ext E45 F43
  have V53 := own_An_ext F44 E45
  have gn45 : n0 ≤ a45 := Nat.le_trans F37 (Nat.le_of_eq ga45.symm)
  have ne45_th : a45 ≠ th := fun q => absurd (F38.lt) (by rw [← q, ga45]; exact Nat.lt_irrefl _)
  have ne45_a28 : a45 ≠ a28 := fun q => absurd (own_An_lt F44) (by rw [← q, ga45]; exact Nat.lt_irrefl _)
  have V45 : own_An Z h45 a45 4096 := own_An_new A45 (by decide)
  obtain ⟨T54, h54, X54, e54, W54, st54⟩ := putF X45 hx hZ hown (host := "") (Or.inl w_32) Via.refl e45 F51 F47 (Or.inl w_33) w_1 (ty := (.array .int)) (by decide) rfl rfl (g := (mkF m 26 #[rv th, iv (4096 : Int32)] [(.ref a45), (.ref th)])) rfl rfl (hb hby own_cc_d26)
  refine own_go (B := (T54.setTop (mkF m 29 #[rv th, iv (4096 : Int32)] []))) st54 ?_
  obtain ⟨L54, X54, N54⟩ := own_abs X54 (Fr.snoc X54 N36 g0)
  have F55 : n0 ≤ h54.size := by rw [W54.size]; exact Z46
  have F56 := Exa.wr W54 F47
  have F57 := Keep.wr K48 W54 (Or.inl (List.mem_of_getElem? (i := 0) rfl))
  have F58 := Fld.other W54 F49 (Or.inr (slot_ne (t := (.array .int)) (t' := (.array .int)) (Or.inl w_29) (Or.inl w_33) (by decide) (by decide) (by decide)))
  have F59 := Fld.other W54 F50 (Or.inr (slot_ne (t := (.array .int)) (t' := (.array .int)) (Or.inl w_31) (Or.inl w_33) (by decide) (by decide) (by decide)))
  have F60 := Fld.same W54 F51
  have F61 := Fld.other W54 F52 (Or.inr (slot_ne (t := (.array .int)) (t' := (.array .int)) (Or.inl w_35) (Or.inl w_33) (by decide) (by decide) (by decide)))
  have F62 := own_An_other V53 W54 ne28_th
  have F63 := own_An_other V45 W54 ne45_th
  refine own_go (B := (T54.setTop (mkF m 30 #[rv th, iv (4096 : Int32)] [(.ref th)]))) (fun t k => XS.aloadN X54.here hx rfl (hb hby own_cc_d29) rfl rfl k) ?_
  refine own_go (B := (T54.setTop (mkF m 31 #[rv th, iv (4096 : Int32)] [(.int (4096 : Int32)), (.ref th)]))) (fun t k => XS.iloadN X54.here hx rfl (hb hby own_cc_d30) rfl k) ?_
  obtain ⟨T64, h64, c64, X64, e64, E64, A64, st64⟩ := newP X54 hx hZ (aty := .int) w_9 e54 (g := (mkF m 31 #[rv th, iv (4096 : Int32)] [(.int (4096 : Int32)), (.ref th)])) rfl (hb hby own_cc_d31) rfl (by decide) (cap := 4096) (by decide) (by decide) (own_b rfl) (own_b rfl)
  obtain ⟨a64, ga64⟩ : ∃ z, z = h54.size := ⟨_, rfl⟩
  rw [← ga64] at A64 st64
  refine own_go (B := (T64.setTop (mkF m 33 #[rv th, iv (4096 : Int32)] [(.ref a64), (.ref th)]))) st64 ?_
  have Z65 : n0 ≤ h64.size := Nat.le_trans F55 E64.1
  have F66 := Exa.ext E64 F56
  have K67 := Keep.ext F57 E64
  have F68 := Fld.ext E64 F58
  have F69 := Fld.ext E64 F59
  have F70 := Fld.ext E64 F60
  have F71 := Fld.ext E64 F61
  have V72 := own_An_ext F62 E64
  have V73 := own_An_ext F63 E64
  have gn64 : n0 ≤ a64 := Nat.le_trans F55 (Nat.le_of_eq ga64.symm)
  have ne64_th : a64 ≠ th := fun q => absurd (F56.lt) (by rw [← q, ga64]; exact Nat.lt_irrefl _)
  have ne64_a28 : a64 ≠ a28 := fun q => absurd (own_An_lt F62) (by rw [← q, ga64]; exact Nat.lt_irrefl _)
  have ne64_a45 : a64 ≠ a45 := fun q => absurd (own_An_lt F63) (by rw [← q, ga64]; exact Nat.lt_irrefl _)
  have V64 : own_An Z h64 a64 4096 := own_An_new A64 (by decide)
  obtain ⟨T74, h74, X74, e74, W74, st74⟩ := putF X64 hx hZ hown (host := "") (Or.inl w_34) Via.refl e64 F71 F66 (Or.inl w_35) w_1 (ty := (.array .int)) (by decide) rfl rfl (g := (mkF m 33 #[rv th, iv (4096 : Int32)] [(.ref a64), (.ref th)])) rfl rfl (hb hby own_cc_d33)
  refine own_go (B := (T74.setTop (mkF m 36 #[rv th, iv (4096 : Int32)] []))) st74 ?_
  obtain ⟨L74, X74, N74⟩ := own_abs X74 (Fr.snoc X74 N54 g0)
  have F75 : n0 ≤ h74.size := by rw [W74.size]; exact Z65
  have F76 := Exa.wr W74 F66
  have F77 := Keep.wr K67 W74 (Or.inl (List.mem_of_getElem? (i := 0) rfl))
  have F78 := Fld.other W74 F68 (Or.inr (slot_ne (t := (.array .int)) (t' := (.array .int)) (Or.inl w_29) (Or.inl w_35) (by decide) (by decide) (by decide)))
  have F79 := Fld.other W74 F69 (Or.inr (slot_ne (t := (.array .int)) (t' := (.array .int)) (Or.inl w_31) (Or.inl w_35) (by decide) (by decide) (by decide)))
  have F80 := Fld.other W74 F70 (Or.inr (slot_ne (t := (.array .int)) (t' := (.array .int)) (Or.inl w_33) (Or.inl w_35) (by decide) (by decide) (by decide)))
  have F81 := Fld.same W74 F71
  have F82 := own_An_other V72 W74 ne28_th
  have F83 := own_An_other V73 W74 ne45_th
  have F84 := own_An_other V64 W74 ne64_th
  exact own_retV X74 hx hlk Bd.returns (hb hby own_cc_d36) (own_b rfl) (own_b rfl) (Q := (own_cc_Q Z th h0 n0)) (by rw [e74]; exact ⟨rfl, N74, F77, F76⟩)

theorem own_bct_d0 : decode prog_93_method_1_code 0 = .ok (.aload_n 0, 1) := by decide +kernel
theorem own_bct_d1 : decode prog_93_method_1_code 1 = .ok (.invokespecial 1, 3) := by decide +kernel
theorem own_bct_d4 : decode prog_93_method_1_code 4 = .ok (.aload_n 0, 1) := by decide +kernel
theorem own_bct_d5 : decode prog_93_method_1_code 5 = .ok (.sipush 1024, 3) := by decide +kernel
theorem own_bct_d8 : decode prog_93_method_1_code 8 = .ok (.newarray .int, 2) := by decide +kernel
theorem own_bct_d10 : decode prog_93_method_1_code 10 = .ok (.putfield 9, 3) := by decide +kernel
theorem own_bct_d13 : decode prog_93_method_1_code 13 = .ok (.aload_n 0, 1) := by decide +kernel
theorem own_bct_d14 : decode prog_93_method_1_code 14 = .ok (.sipush 1024, 3) := by decide +kernel
theorem own_bct_d17 : decode prog_93_method_1_code 17 = .ok (.newarray .int, 2) := by decide +kernel
theorem own_bct_d19 : decode prog_93_method_1_code 19 = .ok (.putfield 13, 3) := by decide +kernel
theorem own_bct_d22 : decode prog_93_method_1_code 22 = .ok (.aload_n 0, 1) := by decide +kernel
theorem own_bct_d23 : decode prog_93_method_1_code 23 = .ok (.sipush 1024, 3) := by decide +kernel
theorem own_bct_d26 : decode prog_93_method_1_code 26 = .ok (.newarray .int, 2) := by decide +kernel
theorem own_bct_d28 : decode prog_93_method_1_code 28 = .ok (.putfield 16, 3) := by decide +kernel
theorem own_bct_d31 : decode prog_93_method_1_code 31 = .ok (.aload_n 0, 1) := by decide +kernel
theorem own_bct_d32 : decode prog_93_method_1_code 32 = .ok (.getfield 9, 3) := by decide +kernel
theorem own_bct_d35 : decode prog_93_method_1_code 35 = .ok (.iconst 0, 1) := by decide +kernel
theorem own_bct_d36 : decode prog_93_method_1_code 36 = .ok (.iload_n 1, 1) := by decide +kernel
theorem own_bct_d37 : decode prog_93_method_1_code 37 = .ok (.iastore, 1) := by decide +kernel
theorem own_bct_d38 : decode prog_93_method_1_code 38 = .ok (.aload_n 0, 1) := by decide +kernel
theorem own_bct_d39 : decode prog_93_method_1_code 39 = .ok (.getfield 9, 3) := by decide +kernel
theorem own_bct_d42 : decode prog_93_method_1_code 42 = .ok (.iconst 1, 1) := by decide +kernel
theorem own_bct_d43 : decode prog_93_method_1_code 43 = .ok (.iload_n 1, 1) := by decide +kernel
theorem own_bct_d44 : decode prog_93_method_1_code 44 = .ok (.iastore, 1) := by decide +kernel
theorem own_bct_d45 : decode prog_93_method_1_code 45 = .ok (.aload_n 0, 1) := by decide +kernel
theorem own_bct_d46 : decode prog_93_method_1_code 46 = .ok (.iconst 2, 1) := by decide +kernel
theorem own_bct_d47 : decode prog_93_method_1_code 47 = .ok (.putfield 19, 3) := by decide +kernel
theorem own_bct_d50 : decode prog_93_method_1_code 50 = .ok (.aload_n 0, 1) := by decide +kernel
theorem own_bct_d51 : decode prog_93_method_1_code 51 = .ok (.sipush 2048, 3) := by decide +kernel
theorem own_bct_d54 : decode prog_93_method_1_code 54 = .ok (.newarray .int, 2) := by decide +kernel
theorem own_bct_d56 : decode prog_93_method_1_code 56 = .ok (.putfield 23, 3) := by decide +kernel
theorem own_bct_d59 : decode prog_93_method_1_code 59 = .ok (.aload_n 0, 1) := by decide +kernel
theorem own_bct_d60 : decode prog_93_method_1_code 60 = .ok (.getfield 23, 3) := by decide +kernel
theorem own_bct_d63 : decode prog_93_method_1_code 63 = .ok (.iconst (-1), 1) := by decide +kernel
theorem own_bct_d64 : decode prog_93_method_1_code 64 = .ok (.invokestatic 26, 3) := by decide +kernel
theorem own_bct_d67 : decode prog_93_method_1_code 67 = .ok (.aload_n 0, 1) := by decide +kernel
theorem own_bct_d68 : decode prog_93_method_1_code 68 = .ok (.sipush 4096, 3) := by decide +kernel
theorem own_bct_d71 : decode prog_93_method_1_code 71 = .ok (.invokevirtual 32, 3) := by decide +kernel
theorem own_bct_d74 : decode prog_93_method_1_code 74 = .ok (.return_, 1) := by decide +kernel
theorem own_bct_pn : plainName "com/example/parts_to_policy/partstopolicy/policy/Bdd" = true := by first | (simp [plainName, overriddenIn]; done) | decide +kernel
theorem own_bct_ef (m : MethodId) (th : Addr) (pn : Int32) : entryFrame m #[(.ref th), (.int pn)] 2 = mkF m 0 #[rv th, iv pn] [] := by first | (simp [entryFrame, mkF, argsToLocals, Value.category]; done) | rfl
def own_bct_Q (Z : State) (th : Addr) (pn : Int32) (h0 : Heap) (n0 : Nat) (v : Option Value) (h : Heap) (L : List Loc) : Prop := v = none ∧ Fr n0 L ∧ Keep h0 h [th] ∧ Exa Z h th "com/example/parts_to_policy/partstopolicy/policy/Bdd"
set_option maxRecDepth 65536 in
set_option maxHeartbeats 40000000 in
theorem own_bct (l : Launch) (Z : State) (a0 : Array Value) (hw : ∀ d ∈ tables_1, d.before a0 Z = true) (ws : List Jvm.Cond) (th : Addr) (pn : Int32) (h0 : Heap) (n0 : Nat) (Z0 : n0 ≤ h0.size) (E0 : Exa Z h0 th "com/example/parts_to_policy/partstopolicy/policy/Bdd") (g0 : n0 ≤ th) (F9000 : Fld Z h0 th "com/example/parts_to_policy/partstopolicy/policy/Bdd" "variable" "[I" .null) (F9001 : Fld Z h0 th "com/example/parts_to_policy/partstopolicy/policy/Bdd" "low" "[I" .null) (F9002 : Fld Z h0 th "com/example/parts_to_policy/partstopolicy/policy/Bdd" "high" "[I" .null) (F9003 : Fld Z h0 th "com/example/parts_to_policy/partstopolicy/policy/Bdd" "size" "I" (.int (0 : Int32))) (F9004 : Fld Z h0 th "com/example/parts_to_policy/partstopolicy/policy/Bdd" "unique" "[I" .null) (F9005 : Fld Z h0 th "com/example/parts_to_policy/partstopolicy/policy/Bdd" "cacheOp" "[I" .null) (F9006 : Fld Z h0 th "com/example/parts_to_policy/partstopolicy/policy/Bdd" "cacheLeft" "[I" .null) (F9007 : Fld Z h0 th "com/example/parts_to_policy/partstopolicy/policy/Bdd" "cacheRight" "[I" .null) (F9008 : Fld Z h0 th "com/example/parts_to_policy/partstopolicy/policy/Bdd" "cacheResult" "[I" .null) :
    MetFree l own_y5 (head1 (Jvm.Cond.code own_y5 prog_93_method_1_code 2 none :: ws) ({ frames := 2, cells := 8, slots := 21504, locals := 28 } : Room)) (fun a U => a = #[(.ref th), (.int pn)] ∧ Z.Warmed39 U.vm ∧ U.heap = h0) (fun _ _ _ _ _ => True) (fun _ U o U' => ∃ v L, o = .returned v ∧ (own_bct_Q Z th pn h0 n0) v U'.heap L ∧ FrameEnd U o U' L ({ frames := 2, cells := 8, slots := 21504, locals := 28 } : Room).cells ({ frames := 2, cells := 8, slots := 21504, locals := 28 } : Room).slots) := by
  refine MetFree.of_bodySF (plainFor_of_name own_bct_pn) hisR ?_
  intro p e s m args below meth c s₁ Bd hml0 hP hK
  obtain ⟨rfl, hZ, hh⟩ := hP
  have hx := Bd.exec
  have hby := Bd.bytes
  have hml : c.maxLocals = 2 := hml0
  have hown : s.vm.findClass "com/example/parts_to_policy/partstopolicy/policy/Bdd" = some m.cls := findClass_of_methodNamed Bd.named
  have hnm := (name_of_methodNamed Bd.named Bd.method).1
  have hlk : meth.locks = false := Bd.notSynchronized
  have X0 : Stand p l e ({ frames := 2, cells := 8, slots := 21504, locals := 28 } : Room) s m #[(.ref th), (.int pn)] below meth c s₁ [] 0 0 := Stand.of_body Bd
  have e0 : s₁.heap = h0 := by rw [← hh, Bd.state]; rfl
  have N0 := Fr.nil n0
  have w_1 := hw _ (List.mem_of_getElem? (l := tables_1) (i := 1) rfl)
  have w_2 := hw _ (List.mem_of_getElem? (l := tables_1) (i := 2) rfl)
  have w_6 := hw _ (List.mem_of_getElem? (l := tables_1) (i := 6) rfl)
  have w_7 := hw _ (List.mem_of_getElem? (l := tables_1) (i := 7) rfl)
  have w_8 := hw _ (List.mem_of_getElem? (l := tables_1) (i := 8) rfl)
  have w_9 := hw _ (List.mem_of_getElem? (l := tables_1) (i := 9) rfl)
  have w_10 := hw _ (List.mem_of_getElem? (l := tables_1) (i := 10) rfl)
  have w_11 := hw _ (List.mem_of_getElem? (l := tables_1) (i := 11) rfl)
  have w_12 := hw _ (List.mem_of_getElem? (l := tables_1) (i := 12) rfl)
  have w_13 := hw _ (List.mem_of_getElem? (l := tables_1) (i := 13) rfl)
  have w_14 := hw _ (List.mem_of_getElem? (l := tables_1) (i := 14) rfl)
  have w_15 := hw _ (List.mem_of_getElem? (l := tables_1) (i := 15) rfl)
  have w_16 := hw _ (List.mem_of_getElem? (l := tables_1) (i := 16) rfl)
  have w_17 := hw _ (List.mem_of_getElem? (l := tables_1) (i := 17) rfl)
  have w_18 := hw _ (List.mem_of_getElem? (l := tables_1) (i := 18) rfl)
  have w_19 := hw _ (List.mem_of_getElem? (l := tables_1) (i := 19) rfl)
  have w_20 := hw _ (List.mem_of_getElem? (l := tables_1) (i := 20) rfl)
  have w_21 := hw _ (List.mem_of_getElem? (l := tables_1) (i := 21) rfl)
  have w_22 := hw _ (List.mem_of_getElem? (l := tables_1) (i := 22) rfl)
  have w_23 := hw _ (List.mem_of_getElem? (l := tables_1) (i := 23) rfl)
  have w_24 := hw _ (List.mem_of_getElem? (l := tables_1) (i := 24) rfl)
  have w_25 := hw _ (List.mem_of_getElem? (l := tables_1) (i := 25) rfl)
  have w_26 := hw _ (List.mem_of_getElem? (l := tables_1) (i := 26) rfl)
  have w_27 := hw _ (List.mem_of_getElem? (l := tables_1) (i := 27) rfl)
  have w_29 := hw _ (List.mem_of_getElem? (l := tables_1) (i := 29) rfl)
  have w_31 := hw _ (List.mem_of_getElem? (l := tables_1) (i := 31) rfl)
  have w_33 := hw _ (List.mem_of_getElem? (l := tables_1) (i := 33) rfl)
  have w_35 := hw _ (List.mem_of_getElem? (l := tables_1) (i := 35) rfl)
  show own_G p.tables e below (fun o U' => ∃ v L, o = .returned v ∧ (own_bct_Q Z th pn h0 n0) v U'.heap L ∧ FrameEnd s o U' L ({ frames := 2, cells := 8, slots := 21504, locals := 28 } : Room).cells ({ frames := 2, cells := 8, slots := 21504, locals := 28 } : Room).slots) (s₁.setTop (entryFrame m #[(.ref th), (.int pn)] 2))
  refine own_go (B := s₁.setTop (mkF m 0 #[rv th, iv pn] [])) (fun t k => castTop (own_bct_ef m th pn) k) ?_
  have K0 := Keep.refl h0 [th]
  refine own_go (B := (s₁.setTop (mkF m 1 #[rv th, iv pn] [(.ref th)]))) (fun t k => XS.aloadN X0.here hx rfl (hb hby own_bct_d0) rfl rfl k) ?_
  obtain ⟨T1, X1, e1, st1⟩ := initO X0 hx hZ hown w_6 w_7 w_8 e0 (g := (mkF m 1 #[rv th, iv pn] [(.ref th)])) rfl (by rw [hml]; rfl) rfl (hb hby own_bct_d1) (by decide) (W := 0) (by show 2 * 0 + _ ≤ _; exact own_b rfl) (by decide)
  refine own_go (B := (T1.setTop (mkF m 4 #[rv th, iv pn] []))) st1 ?_
  refine own_go (B := (T1.setTop (mkF m 5 #[rv th, iv pn] [(.ref th)]))) (fun t k => XS.aloadN X1.here hx rfl (hb hby own_bct_d4) rfl rfl k) ?_
  refine own_go (B := (T1.setTop (mkF m 8 #[rv th, iv pn] [(.int (1024 : Int32)), (.ref th)]))) (fun t k => own_sipush (v := (1024 : Int32)) X1.here hx rfl (hb hby own_bct_d5) (by decide) k) ?_
  obtain ⟨T2, h2, c2, X2, e2, E2, A2, st2⟩ := newP X1 hx hZ (aty := .int) w_9 e1 (g := (mkF m 8 #[rv th, iv pn] [(.int (1024 : Int32)), (.ref th)])) rfl (hb hby own_bct_d8) rfl (by decide) (cap := 1024) (by decide) (by decide) (own_b rfl) (own_b rfl)
  obtain ⟨a2, ga2⟩ : ∃ z, z = h0.size := ⟨_, rfl⟩
  rw [← ga2] at A2 st2
  refine own_go (B := (T2.setTop (mkF m 10 #[rv th, iv pn] [(.ref a2), (.ref th)]))) st2 ?_
  have Z3 : n0 ≤ h2.size := Nat.le_trans Z0 E2.1
  have F4 := Exa.ext E2 E0
  have K5 := Keep.ext K0 E2
  have F6 := Fld.ext E2 F9000
  have F7 := Fld.ext E2 F9001
  have F8 := Fld.ext E2 F9002
  have F9 := Fld.ext E2 F9003
  have F10 := Fld.ext E2 F9004
  have F11 := Fld.ext E2 F9005
  have F12 := Fld.ext E2 F9006
  have F13 := Fld.ext E2 F9007
  have F14 := Fld.ext E2 F9008
  have gn2 : n0 ≤ a2 := Nat.le_trans Z0 (Nat.le_of_eq ga2.symm)
  have ne2_th : a2 ≠ th := fun q => absurd (E0.lt) (by rw [← q, ga2]; exact Nat.lt_irrefl _)
  have V2 : own_An Z h2 a2 1024 := own_An_new A2 (by decide)
  obtain ⟨T15, h15, X15, e15, W15, st15⟩ := putF X2 hx hZ hown (host := "") (Or.inl w_10) Via.refl e2 F6 F4 (Or.inl w_11) w_1 (ty := (.array .int)) (by decide) rfl rfl (g := (mkF m 10 #[rv th, iv pn] [(.ref a2), (.ref th)])) rfl rfl (hb hby own_bct_d10)
  refine own_go (B := (T15.setTop (mkF m 13 #[rv th, iv pn] []))) st15 ?_
  obtain ⟨L15, X15, N15⟩ := own_abs X15 (Fr.snoc X15 N0 g0)
  have F16 : n0 ≤ h15.size := by rw [W15.size]; exact Z3
  have F17 := Exa.wr W15 F4
  have F18 := Keep.wr K5 W15 (Or.inl (List.mem_of_getElem? (i := 0) rfl))
  have F19 := Fld.same W15 F6
  have F20 := Fld.other W15 F7 (Or.inr (slot_ne (t := (.array .int)) (t' := (.array .int)) (Or.inl w_13) (Or.inl w_11) (by decide) (by decide) (by decide)))
  have F21 := Fld.other W15 F8 (Or.inr (slot_ne (t := (.array .int)) (t' := (.array .int)) (Or.inl w_15) (Or.inl w_11) (by decide) (by decide) (by decide)))
  have F22 := Fld.other W15 F9 (Or.inr (slot_ne (t := .int) (t' := (.array .int)) (Or.inl w_17) (Or.inl w_11) (by decide) (by decide) (by decide)))
  have F23 := Fld.other W15 F10 (Or.inr (slot_ne (t := (.array .int)) (t' := (.array .int)) (Or.inl w_19) (Or.inl w_11) (by decide) (by decide) (by decide)))
  have F24 := Fld.other W15 F11 (Or.inr (slot_ne (t := (.array .int)) (t' := (.array .int)) (Or.inl w_29) (Or.inl w_11) (by decide) (by decide) (by decide)))
  have F25 := Fld.other W15 F12 (Or.inr (slot_ne (t := (.array .int)) (t' := (.array .int)) (Or.inl w_31) (Or.inl w_11) (by decide) (by decide) (by decide)))
  have F26 := Fld.other W15 F13 (Or.inr (slot_ne (t := (.array .int)) (t' := (.array .int)) (Or.inl w_33) (Or.inl w_11) (by decide) (by decide) (by decide)))
  have F27 := Fld.other W15 F14 (Or.inr (slot_ne (t := (.array .int)) (t' := (.array .int)) (Or.inl w_35) (Or.inl w_11) (by decide) (by decide) (by decide)))
  have F28 := own_An_other V2 W15 ne2_th
  refine own_go (B := (T15.setTop (mkF m 14 #[rv th, iv pn] [(.ref th)]))) (fun t k => XS.aloadN X15.here hx rfl (hb hby own_bct_d13) rfl rfl k) ?_
  refine own_go (B := (T15.setTop (mkF m 17 #[rv th, iv pn] [(.int (1024 : Int32)), (.ref th)]))) (fun t k => own_sipush (v := (1024 : Int32)) X15.here hx rfl (hb hby own_bct_d14) (by decide) k) ?_
  obtain ⟨T29, h29, c29, X29, e29, E29, A29, st29⟩ := newP X15 hx hZ (aty := .int) w_9 e15 (g := (mkF m 17 #[rv th, iv pn] [(.int (1024 : Int32)), (.ref th)])) rfl (hb hby own_bct_d17) rfl (by decide) (cap := 1024) (by decide) (by decide) (own_b rfl) (own_b rfl)
  obtain ⟨a29, ga29⟩ : ∃ z, z = h15.size := ⟨_, rfl⟩
  rw [← ga29] at A29 st29
  refine own_go (B := (T29.setTop (mkF m 19 #[rv th, iv pn] [(.ref a29), (.ref th)]))) st29 ?_
  have Z30 : n0 ≤ h29.size := Nat.le_trans F16 E29.1
  have F31 := Exa.ext E29 F17
  have K32 := Keep.ext F18 E29
  have F33 := Fld.ext E29 F19
  have F34 := Fld.ext E29 F20
  have F35 := Fld.ext E29 F21
  have F36 := Fld.ext E29 F22
  have F37 := Fld.ext E29 F23
  have F38 := Fld.ext E29 F24
  have F39 := Fld.ext E29 F25
  have F40 := Fld.ext E29 F26
  have F41 := Fld.ext E29 F27
  have V42 := own_An_ext F28 E29
  have gn29 : n0 ≤ a29 := Nat.le_trans F16 (Nat.le_of_eq ga29.symm)
  have ne29_th : a29 ≠ th := fun q => absurd (F17.lt) (by rw [← q, ga29]; exact Nat.lt_irrefl _)
  have ne29_a2 : a29 ≠ a2 := fun q => absurd (own_An_lt F28) (by rw [← q, ga29]; exact Nat.lt_irrefl _)
  have V29 : own_An Z h29 a29 1024 := own_An_new A29 (by decide)
  obtain ⟨T43, h43, X43, e43, W43, st43⟩ := putF X29 hx hZ hown (host := "") (Or.inl w_12) Via.refl e29 F34 F31 (Or.inl w_13) w_1 (ty := (.array .int)) (by decide) rfl rfl (g := (mkF m 19 #[rv th, iv pn] [(.ref a29), (.ref th)])) rfl rfl (hb hby own_bct_d19)
  refine own_go (B := (T43.setTop (mkF m 22 #[rv th, iv pn] []))) st43 ?_
  obtain ⟨L43, X43, N43⟩ := own_abs X43 (Fr.snoc X43 N15 g0)
  have F44 : n0 ≤ h43.size := by rw [W43.size]; exact Z30
  have F45 := Exa.wr W43 F31
  have F46 := Keep.wr K32 W43 (Or.inl (List.mem_of_getElem? (i := 0) rfl))
  have F47 := Fld.other W43 F33 (Or.inr (slot_ne (t := (.array .int)) (t' := (.array .int)) (Or.inl w_11) (Or.inl w_13) (by decide) (by decide) (by decide)))
  have F48 := Fld.same W43 F34
  have F49 := Fld.other W43 F35 (Or.inr (slot_ne (t := (.array .int)) (t' := (.array .int)) (Or.inl w_15) (Or.inl w_13) (by decide) (by decide) (by decide)))
  have F50 := Fld.other W43 F36 (Or.inr (slot_ne (t := .int) (t' := (.array .int)) (Or.inl w_17) (Or.inl w_13) (by decide) (by decide) (by decide)))
  have F51 := Fld.other W43 F37 (Or.inr (slot_ne (t := (.array .int)) (t' := (.array .int)) (Or.inl w_19) (Or.inl w_13) (by decide) (by decide) (by decide)))
  have F52 := Fld.other W43 F38 (Or.inr (slot_ne (t := (.array .int)) (t' := (.array .int)) (Or.inl w_29) (Or.inl w_13) (by decide) (by decide) (by decide)))
  have F53 := Fld.other W43 F39 (Or.inr (slot_ne (t := (.array .int)) (t' := (.array .int)) (Or.inl w_31) (Or.inl w_13) (by decide) (by decide) (by decide)))
  have F54 := Fld.other W43 F40 (Or.inr (slot_ne (t := (.array .int)) (t' := (.array .int)) (Or.inl w_33) (Or.inl w_13) (by decide) (by decide) (by decide)))
  have F55 := Fld.other W43 F41 (Or.inr (slot_ne (t := (.array .int)) (t' := (.array .int)) (Or.inl w_35) (Or.inl w_13) (by decide) (by decide) (by decide)))
  have F56 := own_An_other V42 W43 ne2_th
  have F57 := own_An_other V29 W43 ne29_th
  refine own_go (B := (T43.setTop (mkF m 23 #[rv th, iv pn] [(.ref th)]))) (fun t k => XS.aloadN X43.here hx rfl (hb hby own_bct_d22) rfl rfl k) ?_
  refine own_go (B := (T43.setTop (mkF m 26 #[rv th, iv pn] [(.int (1024 : Int32)), (.ref th)]))) (fun t k => own_sipush (v := (1024 : Int32)) X43.here hx rfl (hb hby own_bct_d23) (by decide) k) ?_
  obtain ⟨T58, h58, c58, X58, e58, E58, A58, st58⟩ := newP X43 hx hZ (aty := .int) w_9 e43 (g := (mkF m 26 #[rv th, iv pn] [(.int (1024 : Int32)), (.ref th)])) rfl (hb hby own_bct_d26) rfl (by decide) (cap := 1024) (by decide) (by decide) (own_b rfl) (own_b rfl)
  obtain ⟨a58, ga58⟩ : ∃ z, z = h43.size := ⟨_, rfl⟩
  rw [← ga58] at A58 st58
  refine own_go (B := (T58.setTop (mkF m 28 #[rv th, iv pn] [(.ref a58), (.ref th)]))) st58 ?_
  have Z59 : n0 ≤ h58.size := Nat.le_trans F44 E58.1
  have F60 := Exa.ext E58 F45
  have K61 := Keep.ext F46 E58
  have F62 := Fld.ext E58 F47
  have F63 := Fld.ext E58 F48
  have F64 := Fld.ext E58 F49
  have F65 := Fld.ext E58 F50
  have F66 := Fld.ext E58 F51
  have F67 := Fld.ext E58 F52
  have F68 := Fld.ext E58 F53
  have F69 := Fld.ext E58 F54
  have F70 := Fld.ext E58 F55
  have V71 := own_An_ext F56 E58
  have V72 := own_An_ext F57 E58
  have gn58 : n0 ≤ a58 := Nat.le_trans F44 (Nat.le_of_eq ga58.symm)
  have ne58_th : a58 ≠ th := fun q => absurd (F45.lt) (by rw [← q, ga58]; exact Nat.lt_irrefl _)
  have ne58_a2 : a58 ≠ a2 := fun q => absurd (own_An_lt F56) (by rw [← q, ga58]; exact Nat.lt_irrefl _)
  have ne58_a29 : a58 ≠ a29 := fun q => absurd (own_An_lt F57) (by rw [← q, ga58]; exact Nat.lt_irrefl _)
  have V58 : own_An Z h58 a58 1024 := own_An_new A58 (by decide)
  obtain ⟨T73, h73, X73, e73, W73, st73⟩ := putF X58 hx hZ hown (host := "") (Or.inl w_14) Via.refl e58 F64 F60 (Or.inl w_15) w_1 (ty := (.array .int)) (by decide) rfl rfl (g := (mkF m 28 #[rv th, iv pn] [(.ref a58), (.ref th)])) rfl rfl (hb hby own_bct_d28)
  refine own_go (B := (T73.setTop (mkF m 31 #[rv th, iv pn] []))) st73 ?_
  obtain ⟨L73, X73, N73⟩ := own_abs X73 (Fr.snoc X73 N43 g0)
  have F74 : n0 ≤ h73.size := by rw [W73.size]; exact Z59
  have F75 := Exa.wr W73 F60
  have F76 := Keep.wr K61 W73 (Or.inl (List.mem_of_getElem? (i := 0) rfl))
  have F77 := Fld.other W73 F62 (Or.inr (slot_ne (t := (.array .int)) (t' := (.array .int)) (Or.inl w_11) (Or.inl w_15) (by decide) (by decide) (by decide)))
  have F78 := Fld.other W73 F63 (Or.inr (slot_ne (t := (.array .int)) (t' := (.array .int)) (Or.inl w_13) (Or.inl w_15) (by decide) (by decide) (by decide)))
  have F79 := Fld.same W73 F64
  have F80 := Fld.other W73 F65 (Or.inr (slot_ne (t := .int) (t' := (.array .int)) (Or.inl w_17) (Or.inl w_15) (by decide) (by decide) (by decide)))
  have F81 := Fld.other W73 F66 (Or.inr (slot_ne (t := (.array .int)) (t' := (.array .int)) (Or.inl w_19) (Or.inl w_15) (by decide) (by decide) (by decide)))
  have F82 := Fld.other W73 F67 (Or.inr (slot_ne (t := (.array .int)) (t' := (.array .int)) (Or.inl w_29) (Or.inl w_15) (by decide) (by decide) (by decide)))
  have F83 := Fld.other W73 F68 (Or.inr (slot_ne (t := (.array .int)) (t' := (.array .int)) (Or.inl w_31) (Or.inl w_15) (by decide) (by decide) (by decide)))
  have F84 := Fld.other W73 F69 (Or.inr (slot_ne (t := (.array .int)) (t' := (.array .int)) (Or.inl w_33) (Or.inl w_15) (by decide) (by decide) (by decide)))
  have F85 := Fld.other W73 F70 (Or.inr (slot_ne (t := (.array .int)) (t' := (.array .int)) (Or.inl w_35) (Or.inl w_15) (by decide) (by decide) (by decide)))
  have F86 := own_An_other V71 W73 ne2_th
  have F87 := own_An_other V72 W73 ne29_th
  have F88 := own_An_other V58 W73 ne58_th
  refine own_go (B := (T73.setTop (mkF m 32 #[rv th, iv pn] [(.ref th)]))) (fun t k => XS.aloadN X73.here hx rfl (hb hby own_bct_d31) rfl rfl k) ?_
  obtain ⟨T89, X89, e89, st89⟩ := getF X73 hx hZ hown (host := "") (Or.inl w_10) Via.refl e73 F77 (g := (mkF m 32 #[rv th, iv pn] [(.ref th)])) rfl rfl (hb hby own_bct_d32)
  refine own_go (B := (T89.setTop (mkF m 35 #[rv th, iv pn] [(.ref a2)]))) st89 ?_
  refine own_go (B := (T89.setTop (mkF m 36 #[rv th, iv pn] [(.int (0 : Int32)), (.ref a2)]))) (fun t k => own_iconst (v := (0 : Int32)) X89.here hx rfl (hb hby own_bct_d35) (by decide) k) ?_
  refine own_go (B := (T89.setTop (mkF m 37 #[rv th, iv pn] [(.int pn), (.int (0 : Int32)), (.ref a2)]))) (fun t k => XS.iloadN X89.here hx rfl (hb hby own_bct_d36) rfl k) ?_
  obtain ⟨T90, h90, X90, e90, W90, V90, st90⟩ := own_stN X89 hx hZ e89 F86 (by decide) (by decide) (g := (mkF m 37 #[rv th, iv pn] [(.int pn), (.int (0 : Int32)), (.ref a2)])) rfl rfl (hb hby own_bct_d37)
  refine own_go (B := (T90.setTop (mkF m 38 #[rv th, iv pn] []))) st90 ?_
  obtain ⟨L90, X90, N90⟩ := own_abs X90 (Fr.snoc X90 N73 gn2)
  have F91 : n0 ≤ h90.size := by rw [W90.size]; exact F74
  have F92 := Exa.wr W90 F75
  have F93 := Keep.wr F76 W90 (Or.inr (Nat.le_trans K0.1 (Nat.le_of_eq ga2.symm)))
  have F94 := Fld.other W90 F77 (Or.inl (Ne.symm ne2_th))
  have F95 := Fld.other W90 F78 (Or.inl (Ne.symm ne2_th))
  have F96 := Fld.other W90 F79 (Or.inl (Ne.symm ne2_th))
  have F97 := Fld.other W90 F80 (Or.inl (Ne.symm ne2_th))
  have F98 := Fld.other W90 F81 (Or.inl (Ne.symm ne2_th))
  have F99 := Fld.other W90 F82 (Or.inl (Ne.symm ne2_th))
  have F100 := Fld.other W90 F83 (Or.inl (Ne.symm ne2_th))
  have F101 := Fld.other W90 F84 (Or.inl (Ne.symm ne2_th))
  have F102 := Fld.other W90 F85 (Or.inl (Ne.symm ne2_th))
  have F104 := own_An_other F87 W90 ne29_a2
  have F105 := own_An_other F88 W90 ne58_a2
  refine own_go (B := (T90.setTop (mkF m 39 #[rv th, iv pn] [(.ref th)]))) (fun t k => XS.aloadN X90.here hx rfl (hb hby own_bct_d38) rfl rfl k) ?_
  obtain ⟨T106, X106, e106, st106⟩ := getF X90 hx hZ hown (host := "") (Or.inl w_10) Via.refl e90 F94 (g := (mkF m 39 #[rv th, iv pn] [(.ref th)])) rfl rfl (hb hby own_bct_d39)
  refine own_go (B := (T106.setTop (mkF m 42 #[rv th, iv pn] [(.ref a2)]))) st106 ?_
  refine own_go (B := (T106.setTop (mkF m 43 #[rv th, iv pn] [(.int (1 : Int32)), (.ref a2)]))) (fun t k => own_iconst (v := (1 : Int32)) X106.here hx rfl (hb hby own_bct_d42) (by decide) k) ?_
  refine own_go (B := (T106.setTop (mkF m 44 #[rv th, iv pn] [(.int pn), (.int (1 : Int32)), (.ref a2)]))) (fun t k => XS.iloadN X106.here hx rfl (hb hby own_bct_d43) rfl k) ?_
  obtain ⟨T107, h107, X107, e107, W107, V107, st107⟩ := own_stN X106 hx hZ e106 V90 (by decide) (by decide) (g := (mkF m 44 #[rv th, iv pn] [(.int pn), (.int (1 : Int32)), (.ref a2)])) rfl rfl (hb hby own_bct_d44)
  refine own_go (B := (T107.setTop (mkF m 45 #[rv th, iv pn] []))) st107 ?_
  obtain ⟨L107, X107, N107⟩ := own_abs X107 (Fr.snoc X107 N90 gn2)
  have F108 : n0 ≤ h107.size := by rw [W107.size]; exact F91
  have F109 := Exa.wr W107 F92
  have F110 := Keep.wr F93 W107 (Or.inr (Nat.le_trans K0.1 (Nat.le_of_eq ga2.symm)))
  have F111 := Fld.other W107 F94 (Or.inl (Ne.symm ne2_th))
  have F112 := Fld.other W107 F95 (Or.inl (Ne.symm ne2_th))
  have F113 := Fld.other W107 F96 (Or.inl (Ne.symm ne2_th))
  have F114 := Fld.other W107 F97 (Or.inl (Ne.symm ne2_th))
  have F115 := Fld.other W107 F98 (Or.inl (Ne.symm ne2_th))
  have F116 := Fld.other W107 F99 (Or.inl (Ne.symm ne2_th))
  have F117 := Fld.other W107 F100 (Or.inl (Ne.symm ne2_th))
  have F118 := Fld.other W107 F101 (Or.inl (Ne.symm ne2_th))
  have F119 := Fld.other W107 F102 (Or.inl (Ne.symm ne2_th))
  have F121 := own_An_other F104 W107 ne29_a2
  have F122 := own_An_other F105 W107 ne58_a2
  refine own_go (B := (T107.setTop (mkF m 46 #[rv th, iv pn] [(.ref th)]))) (fun t k => XS.aloadN X107.here hx rfl (hb hby own_bct_d45) rfl rfl k) ?_
  refine own_go (B := (T107.setTop (mkF m 47 #[rv th, iv pn] [(.int (2 : Int32)), (.ref th)]))) (fun t k => own_iconst (v := (2 : Int32)) X107.here hx rfl (hb hby own_bct_d46) (by decide) k) ?_
  obtain ⟨T123, h123, X123, e123, W123, st123⟩ := putF X107 hx hZ hown (host := "") (Or.inl w_16) Via.refl e107 F114 F109 (Or.inl w_17) w_1 (ty := .int) (by decide) rfl rfl (g := (mkF m 47 #[rv th, iv pn] [(.int (2 : Int32)), (.ref th)])) rfl rfl (hb hby own_bct_d47)
  refine own_go (B := (T123.setTop (mkF m 50 #[rv th, iv pn] []))) st123 ?_
  obtain ⟨L123, X123, N123⟩ := own_abs X123 (Fr.snoc X123 N107 g0)
  have F124 : n0 ≤ h123.size := by rw [W123.size]; exact F108
  have F125 := Exa.wr W123 F109
  have F126 := Keep.wr F110 W123 (Or.inl (List.mem_of_getElem? (i := 0) rfl))
  have F127 := Fld.other W123 F111 (Or.inr (slot_ne (t := (.array .int)) (t' := .int) (Or.inl w_11) (Or.inl w_17) (by decide) (by decide) (by decide)))
  have F128 := Fld.other W123 F112 (Or.inr (slot_ne (t := (.array .int)) (t' := .int) (Or.inl w_13) (Or.inl w_17) (by decide) (by decide) (by decide)))
  have F129 := Fld.other W123 F113 (Or.inr (slot_ne (t := (.array .int)) (t' := .int) (Or.inl w_15) (Or.inl w_17) (by decide) (by decide) (by decide)))
  have F130 := Fld.same W123 F114
  have F131 := Fld.other W123 F115 (Or.inr (slot_ne (t := (.array .int)) (t' := .int) (Or.inl w_19) (Or.inl w_17) (by decide) (by decide) (by decide)))
  have F132 := Fld.other W123 F116 (Or.inr (slot_ne (t := (.array .int)) (t' := .int) (Or.inl w_29) (Or.inl w_17) (by decide) (by decide) (by decide)))
  have F133 := Fld.other W123 F117 (Or.inr (slot_ne (t := (.array .int)) (t' := .int) (Or.inl w_31) (Or.inl w_17) (by decide) (by decide) (by decide)))
  have F134 := Fld.other W123 F118 (Or.inr (slot_ne (t := (.array .int)) (t' := .int) (Or.inl w_33) (Or.inl w_17) (by decide) (by decide) (by decide)))
  have F135 := Fld.other W123 F119 (Or.inr (slot_ne (t := (.array .int)) (t' := .int) (Or.inl w_35) (Or.inl w_17) (by decide) (by decide) (by decide)))
  have F136 := own_An_other V107 W123 ne2_th
  have F137 := own_An_other F121 W123 ne29_th
  have F138 := own_An_other F122 W123 ne58_th
  refine own_go (B := (T123.setTop (mkF m 51 #[rv th, iv pn] [(.ref th)]))) (fun t k => XS.aloadN X123.here hx rfl (hb hby own_bct_d50) rfl rfl k) ?_
  refine own_go (B := (T123.setTop (mkF m 54 #[rv th, iv pn] [(.int (2048 : Int32)), (.ref th)]))) (fun t k => own_sipush (v := (2048 : Int32)) X123.here hx rfl (hb hby own_bct_d51) (by decide) k) ?_
  obtain ⟨T139, h139, c139, X139, e139, E139, A139, st139⟩ := newP X123 hx hZ (aty := .int) w_9 e123 (g := (mkF m 54 #[rv th, iv pn] [(.int (2048 : Int32)), (.ref th)])) rfl (hb hby own_bct_d54) rfl (by decide) (cap := 2048) (by decide) (by decide) (own_b rfl) (own_b rfl)
  obtain ⟨a139, ga139⟩ : ∃ z, z = h123.size := ⟨_, rfl⟩
  rw [← ga139] at A139 st139
  refine own_go (B := (T139.setTop (mkF m 56 #[rv th, iv pn] [(.ref a139), (.ref th)]))) st139 ?_
  have Z140 : n0 ≤ h139.size := Nat.le_trans F124 E139.1
  have F141 := Exa.ext E139 F125
  have K142 := Keep.ext F126 E139
  have F143 := Fld.ext E139 F127
  have F144 := Fld.ext E139 F128
  have F145 := Fld.ext E139 F129
  have F146 := Fld.ext E139 F130
  have F147 := Fld.ext E139 F131
  have F148 := Fld.ext E139 F132
  have F149 := Fld.ext E139 F133
  have F150 := Fld.ext E139 F134
  have F151 := Fld.ext E139 F135
  have V152 := own_An_ext F136 E139
  have V153 := own_An_ext F137 E139
  have V154 := own_An_ext F138 E139
  have gn139 : n0 ≤ a139 := Nat.le_trans F124 (Nat.le_of_eq ga139.symm)
  have ne139_th : a139 ≠ th := fun q => absurd (F125.lt) (by rw [← q, ga139]; exact Nat.lt_irrefl _)
  have ne139_a2 : a139 ≠ a2 := fun q => absurd (own_An_lt F136) (by rw [← q, ga139]; exact Nat.lt_irrefl _)
  have ne139_a29 : a139 ≠ a29 := fun q => absurd (own_An_lt F137) (by rw [← q, ga139]; exact Nat.lt_irrefl _)
  have ne139_a58 : a139 ≠ a58 := fun q => absurd (own_An_lt F138) (by rw [← q, ga139]; exact Nat.lt_irrefl _)
  have V139 : own_An Z h139 a139 2048 := own_An_new A139 (by decide)
  obtain ⟨T155, h155, X155, e155, W155, st155⟩ := putF X139 hx hZ hown (host := "") (Or.inl w_18) Via.refl e139 F147 F141 (Or.inl w_19) w_1 (ty := (.array .int)) (by decide) rfl rfl (g := (mkF m 56 #[rv th, iv pn] [(.ref a139), (.ref th)])) rfl rfl (hb hby own_bct_d56)
  refine own_go (B := (T155.setTop (mkF m 59 #[rv th, iv pn] []))) st155 ?_
  obtain ⟨L155, X155, N155⟩ := own_abs X155 (Fr.snoc X155 N123 g0)
  have F156 : n0 ≤ h155.size := by rw [W155.size]; exact Z140
  have F157 := Exa.wr W155 F141
  have F158 := Keep.wr K142 W155 (Or.inl (List.mem_of_getElem? (i := 0) rfl))
  have F159 := Fld.other W155 F143 (Or.inr (slot_ne (t := (.array .int)) (t' := (.array .int)) (Or.inl w_11) (Or.inl w_19) (by decide) (by decide) (by decide)))
  have F160 := Fld.other W155 F144 (Or.inr (slot_ne (t := (.array .int)) (t' := (.array .int)) (Or.inl w_13) (Or.inl w_19) (by decide) (by decide) (by decide)))
  have F161 := Fld.other W155 F145 (Or.inr (slot_ne (t := (.array .int)) (t' := (.array .int)) (Or.inl w_15) (Or.inl w_19) (by decide) (by decide) (by decide)))
  have F162 := Fld.other W155 F146 (Or.inr (slot_ne (t := .int) (t' := (.array .int)) (Or.inl w_17) (Or.inl w_19) (by decide) (by decide) (by decide)))
  have F163 := Fld.same W155 F147
  have F164 := Fld.other W155 F148 (Or.inr (slot_ne (t := (.array .int)) (t' := (.array .int)) (Or.inl w_29) (Or.inl w_19) (by decide) (by decide) (by decide)))
  have F165 := Fld.other W155 F149 (Or.inr (slot_ne (t := (.array .int)) (t' := (.array .int)) (Or.inl w_31) (Or.inl w_19) (by decide) (by decide) (by decide)))
  have F166 := Fld.other W155 F150 (Or.inr (slot_ne (t := (.array .int)) (t' := (.array .int)) (Or.inl w_33) (Or.inl w_19) (by decide) (by decide) (by decide)))
  have F167 := Fld.other W155 F151 (Or.inr (slot_ne (t := (.array .int)) (t' := (.array .int)) (Or.inl w_35) (Or.inl w_19) (by decide) (by decide) (by decide)))
  have F168 := own_An_other V152 W155 ne2_th
  have F169 := own_An_other V153 W155 ne29_th
  have F170 := own_An_other V154 W155 ne58_th
  have F171 := own_An_other V139 W155 ne139_th
  refine own_go (B := (T155.setTop (mkF m 60 #[rv th, iv pn] [(.ref th)]))) (fun t k => XS.aloadN X155.here hx rfl (hb hby own_bct_d59) rfl rfl k) ?_
  obtain ⟨T172, X172, e172, st172⟩ := getF X155 hx hZ hown (host := "") (Or.inl w_18) Via.refl e155 F163 (g := (mkF m 60 #[rv th, iv pn] [(.ref th)])) rfl rfl (hb hby own_bct_d60)
  refine own_go (B := (T172.setTop (mkF m 63 #[rv th, iv pn] [(.ref a139)]))) st172 ?_
  refine own_go (B := (T172.setTop (mkF m 64 #[rv th, iv pn] [(.int (-1 : Int32)), (.ref a139)]))) (fun t k => own_iconst (v := (-1 : Int32)) X172.here hx rfl (hb hby own_bct_d63) (by decide) k) ?_
  obtain ⟨_, _, ⟨T173, L173, k173, n173⟩, -, X173, ⟨Lc173, hQ173, l173, y173, z173⟩, st173⟩ := Jvm.LawKit.callS X172 hx (y := own_y3) hown (mvT hZ w_20) (mvT hZ w_21) (mvT hZ w_22) (mvT hZ w_23) (by decide) (backOf (W := 0) (own_fill l Z a0 hw [] a139 (-1 : Int32) 2048 h155 n0 F156 F171 gn139 (by decide)) hZ w_23 w_22 (by decide) (by decide)) (g := (mkF m 64 #[rv th, iv pn] [(.int (-1 : Int32)), (.ref a139)])) rfl (by rw [hml]; rfl) (argsL := [(.ref a139), (.int (-1 : Int32))]) (rest := []) (lenOf own_pd3 rfl) rfl (by show 2 * 0 + _ ≤ _; exact own_b rfl) (hb hby own_bct_d64) (fun _ _ => ⟨rfl, e172, (own_b rfl : 4 + 0 ≤ _), (own_b rfl : 5120 + 0 ≤ _)⟩)
  dsimp only [Pt.U, Pt.locs, Pt.cells, Pt.slots] at X173 l173 y173 z173 st173 hQ173
  obtain ⟨rfl, Nq173, K173⟩ := hQ173
  obtain ⟨L173, X173, N173⟩ := own_absC (K := 4) (K' := 5120) X173 l173 y173 z173 N155 Nq173
  have F174 : n0 ≤ T173.heap.size := Nat.le_trans F156 K173.1
  have F175 := Exa.keep F157 K173
  have F176 := Keep.trans F158 K173 (allS (Or.inr (Nat.le_trans F126.1 (Nat.le_of_eq ga139.symm))) all0)
  have F177 := Fld.keep F159 K173 (ninS (Ne.symm ne139_th) nin0)
  have F178 := Fld.keep F160 K173 (ninS (Ne.symm ne139_th) nin0)
  have F179 := Fld.keep F161 K173 (ninS (Ne.symm ne139_th) nin0)
  have F180 := Fld.keep F162 K173 (ninS (Ne.symm ne139_th) nin0)
  have F181 := Fld.keep F163 K173 (ninS (Ne.symm ne139_th) nin0)
  have F182 := Fld.keep F164 K173 (ninS (Ne.symm ne139_th) nin0)
  have F183 := Fld.keep F165 K173 (ninS (Ne.symm ne139_th) nin0)
  have F184 := Fld.keep F166 K173 (ninS (Ne.symm ne139_th) nin0)
  have F185 := Fld.keep F167 K173 (ninS (Ne.symm ne139_th) nin0)
  have F186 := own_An_keep F168 K173 (ninS (Ne.symm ne139_a2) nin0)
  have F187 := own_An_keep F169 K173 (ninS (Ne.symm ne139_a29) nin0)
  have F188 := own_An_keep F170 K173 (ninS (Ne.symm ne139_a58) nin0)
  refine own_go (B := (T173.setTop (mkF m 67 #[rv th, iv pn] []))) st173 ?_
  refine own_go (B := (T173.setTop (mkF m 68 #[rv th, iv pn] [(.ref th)]))) (fun t k => XS.aloadN X173.here hx rfl (hb hby own_bct_d67) rfl rfl k) ?_
  refine own_go (B := (T173.setTop (mkF m 71 #[rv th, iv pn] [(.int (4096 : Int32)), (.ref th)]))) (fun t k => own_sipush (v := (4096 : Int32)) X173.here hx rfl (hb hby own_bct_d68) (by decide) k) ?_
  obtain ⟨pc190, pq190, pr190⟩ := Exa.cell F175
  obtain ⟨_, _, ⟨T190, L190, k190, n190⟩, -, X190, ⟨Lc190, hQ190, l190, y190, z190⟩, st190⟩ := X173.privateBack hx (y := own_y4) hown (mvT hZ w_24) (mvT hZ w_25) (own_selp hZ w_1 w_26 w_25 (by decide)) (Cond.privateMethod_at (mvP hZ w_26 (args := #[]))) (mvT hZ w_27) (by decide) (backOf (W := 0) (own_cc l Z a0 hw [] th T173.heap n0 F174 F175 g0 F182 F183 F184 F185) hZ w_27 w_2 (by decide) (by decide)) (g := (mkF m 71 #[rv th, iv pn] [(.int (4096 : Int32)), (.ref th)])) rfl (by rw [hml]; rfl) (Steps.refl _) (a := th) pq190 pr190 (argsL := [(.int (4096 : Int32))]) (rest := []) (lenOf own_pd2 rfl) rfl (by show 2 * 0 + _ ≤ _; exact own_b rfl) (hb hby own_bct_d71) (fun _ _ => ⟨rfl, rfl, (own_b rfl : 4 + 4 ≤ _), (own_b rfl : 5120 + 16384 ≤ _)⟩)
  dsimp only [Pt.U, Pt.locs, Pt.cells, Pt.slots] at X190 l190 y190 z190 st190 hQ190
  obtain ⟨rfl, Nq190, K190, Ex190⟩ := hQ190
  obtain ⟨L190, X190, N190⟩ := own_absC (K := 8) (K' := 21504) X190 l190 y190 z190 N173 Nq190
  have F191 : n0 ≤ T190.heap.size := Nat.le_trans F174 K190.1
  have F192 := Exa.keep F175 K190
  have F193 := Keep.trans F176 K190 (allS (Or.inl (List.mem_of_getElem? (i := 0) rfl)) all0)
  have F203 := own_An_keep F186 K190 (ninS ne2_th nin0)
  have F204 := own_An_keep F187 K190 (ninS ne29_th nin0)
  have F205 := own_An_keep F188 K190 (ninS ne58_th nin0)
  refine own_tr (B := (T190.setTop (mkF m 74 #[rv th, iv pn] []))) st190 ?_
  exact own_retV X190 hx hlk Bd.returns (hb hby own_bct_d74) (own_b rfl) (own_b rfl) (Q := (own_bct_Q Z th pn h0 n0)) ⟨rfl, N190, F193, Ex190⟩

theorem own_pct_d0 : decode prog_106_method_1_code 0 = .ok (.aload_n 0, 1) := by decide +kernel
theorem own_pct_d1 : decode prog_106_method_1_code 1 = .ok (.invokespecial 1, 3) := by decide +kernel
theorem own_pct_d4 : decode prog_106_method_1_code 4 = .ok (.aload_n 0, 1) := by decide +kernel
theorem own_pct_d5 : decode prog_106_method_1_code 5 = .ok (.aload_n 1, 1) := by decide +kernel
theorem own_pct_d6 : decode prog_106_method_1_code 6 = .ok (.putfield 7, 3) := by decide +kernel
theorem own_pct_d9 : decode prog_106_method_1_code 9 = .ok (.aload_n 0, 1) := by decide +kernel
theorem own_pct_d10 : decode prog_106_method_1_code 10 = .ok (.iload_n 2, 1) := by decide +kernel
theorem own_pct_d11 : decode prog_106_method_1_code 11 = .ok (.putfield 13, 3) := by decide +kernel
theorem own_pct_d14 : decode prog_106_method_1_code 14 = .ok (.return_, 1) := by decide +kernel
theorem own_pct_pn : plainName "com/example/parts_to_policy/partstopolicy/policy/PacketSet" = true := by first | (simp [plainName, overriddenIn]; done) | decide +kernel
theorem own_pct_ef (m : MethodId) (th : Addr) (pb : Addr) (pn : Int32) : entryFrame m #[(.ref th), (.ref pb), (.int pn)] 3 = mkF m 0 #[rv th, rv pb, iv pn] [] := by first | (simp [entryFrame, mkF, argsToLocals, Value.category]; done) | rfl
def own_pct_Q (Z : State) (th : Addr) (pb : Addr) (pn : Int32) (h0 : Heap) (n0 : Nat) (v : Option Value) (h : Heap) (L : List Loc) : Prop := v = none ∧ Fr n0 L ∧ Keep h0 h [th] ∧ Exa Z h th "com/example/parts_to_policy/partstopolicy/policy/PacketSet" ∧ Fld Z h th "com/example/parts_to_policy/partstopolicy/policy/PacketSet" "bdd" "Lcom/example/parts_to_policy/partstopolicy/policy/Bdd;" (.ref pb) ∧ Fld Z h th "com/example/parts_to_policy/partstopolicy/policy/PacketSet" "node" "I" (.int pn)
set_option maxRecDepth 65536 in
set_option maxHeartbeats 40000000 in
theorem own_pct (l : Launch) (Z : State) (a0 : Array Value) (hw : ∀ d ∈ tables_1, d.before a0 Z = true) (ws : List Jvm.Cond) (th : Addr) (pb : Addr) (pn : Int32) (h0 : Heap) (n0 : Nat) (Z0 : n0 ≤ h0.size) (E0 : Exa Z h0 th "com/example/parts_to_policy/partstopolicy/policy/PacketSet") (g0 : n0 ≤ th) (F9000 : Fld Z h0 th "com/example/parts_to_policy/partstopolicy/policy/PacketSet" "bdd" "Lcom/example/parts_to_policy/partstopolicy/policy/Bdd;" .null) (F9001 : Fld Z h0 th "com/example/parts_to_policy/partstopolicy/policy/PacketSet" "node" "I" (.int (0 : Int32))) :
    MetFree l own_y6 (head1 (Jvm.Cond.code own_y6 prog_106_method_1_code 3 none :: ws) ({ frames := 1, cells := 0, slots := 0, locals := 12 } : Room)) (fun a U => a = #[(.ref th), (.ref pb), (.int pn)] ∧ Z.Warmed39 U.vm ∧ U.heap = h0) (fun _ _ _ _ _ => True) (fun _ U o U' => ∃ v L, o = .returned v ∧ (own_pct_Q Z th pb pn h0 n0) v U'.heap L ∧ FrameEnd U o U' L ({ frames := 1, cells := 0, slots := 0, locals := 12 } : Room).cells ({ frames := 1, cells := 0, slots := 0, locals := 12 } : Room).slots) := by
  refine MetFree.of_bodySF (plainFor_of_name own_pct_pn) hisR ?_
  intro p e s m args below meth c s₁ Bd hml0 hP hK
  obtain ⟨rfl, hZ, hh⟩ := hP
  have hx := Bd.exec
  have hby := Bd.bytes
  have hml : c.maxLocals = 3 := hml0
  have hown : s.vm.findClass "com/example/parts_to_policy/partstopolicy/policy/PacketSet" = some m.cls := findClass_of_methodNamed Bd.named
  have hnm := (name_of_methodNamed Bd.named Bd.method).1
  have hlk : meth.locks = false := Bd.notSynchronized
  have X0 : Stand p l e ({ frames := 1, cells := 0, slots := 0, locals := 12 } : Room) s m #[(.ref th), (.ref pb), (.int pn)] below meth c s₁ [] 0 0 := Stand.of_body Bd
  have e0 : s₁.heap = h0 := by rw [← hh, Bd.state]; rfl
  have N0 := Fr.nil n0
  have w_7 := hw _ (List.mem_of_getElem? (l := tables_1) (i := 7) rfl)
  have w_8 := hw _ (List.mem_of_getElem? (l := tables_1) (i := 8) rfl)
  have w_37 := hw _ (List.mem_of_getElem? (l := tables_1) (i := 37) rfl)
  have w_42 := hw _ (List.mem_of_getElem? (l := tables_1) (i := 42) rfl)
  have w_43 := hw _ (List.mem_of_getElem? (l := tables_1) (i := 43) rfl)
  have w_44 := hw _ (List.mem_of_getElem? (l := tables_1) (i := 44) rfl)
  have w_45 := hw _ (List.mem_of_getElem? (l := tables_1) (i := 45) rfl)
  have w_46 := hw _ (List.mem_of_getElem? (l := tables_1) (i := 46) rfl)
  show own_G p.tables e below (fun o U' => ∃ v L, o = .returned v ∧ (own_pct_Q Z th pb pn h0 n0) v U'.heap L ∧ FrameEnd s o U' L ({ frames := 1, cells := 0, slots := 0, locals := 12 } : Room).cells ({ frames := 1, cells := 0, slots := 0, locals := 12 } : Room).slots) (s₁.setTop (entryFrame m #[(.ref th), (.ref pb), (.int pn)] 3))
  refine own_go (B := s₁.setTop (mkF m 0 #[rv th, rv pb, iv pn] [])) (fun t k => castTop (own_pct_ef m th pb pn) k) ?_
  have K0 := Keep.refl h0 [th]
  refine own_go (B := (s₁.setTop (mkF m 1 #[rv th, rv pb, iv pn] [(.ref th)]))) (fun t k => XS.aloadN X0.here hx rfl (hb hby own_pct_d0) rfl rfl k) ?_
  obtain ⟨T1, X1, e1, st1⟩ := initO X0 hx hZ hown w_42 w_7 w_8 e0 (g := (mkF m 1 #[rv th, rv pb, iv pn] [(.ref th)])) rfl (by rw [hml]; rfl) rfl (hb hby own_pct_d1) (by decide) (W := 0) (by show 2 * 0 + _ ≤ _; exact own_b rfl) (by decide)
  refine own_go (B := (T1.setTop (mkF m 4 #[rv th, rv pb, iv pn] []))) st1 ?_
  refine own_go (B := (T1.setTop (mkF m 5 #[rv th, rv pb, iv pn] [(.ref th)]))) (fun t k => XS.aloadN X1.here hx rfl (hb hby own_pct_d4) rfl rfl k) ?_
  refine own_go (B := (T1.setTop (mkF m 6 #[rv th, rv pb, iv pn] [(.ref pb), (.ref th)]))) (fun t k => XS.aloadN X1.here hx rfl (hb hby own_pct_d5) rfl rfl k) ?_
  obtain ⟨T2, h2, X2, e2, W2, st2⟩ := putF X1 hx hZ hown (host := "") (Or.inl w_43) Via.refl e1 F9000 E0 (Or.inr ⟨w_44, rfl, hnm⟩) w_37 (ty := (.object "com/example/parts_to_policy/partstopolicy/policy/Bdd")) (by decide) rfl rfl (g := (mkF m 6 #[rv th, rv pb, iv pn] [(.ref pb), (.ref th)])) rfl rfl (hb hby own_pct_d6)
  refine own_go (B := (T2.setTop (mkF m 9 #[rv th, rv pb, iv pn] []))) st2 ?_
  obtain ⟨L2, X2, N2⟩ := own_abs X2 (Fr.snoc X2 N0 g0)
  have F3 : n0 ≤ h2.size := by rw [W2.size]; exact Z0
  have F4 := Exa.wr W2 E0
  have F5 := Keep.wr K0 W2 (Or.inl (List.mem_of_getElem? (i := 0) rfl))
  have F6 := Fld.same W2 F9000
  have F7 := Fld.other W2 F9001 (Or.inr (slot_ne (t := .int) (t' := (.object "com/example/parts_to_policy/partstopolicy/policy/Bdd")) (Or.inr w_46) (Or.inr w_44) (by decide) (by decide) (by decide)))
  refine own_go (B := (T2.setTop (mkF m 10 #[rv th, rv pb, iv pn] [(.ref th)]))) (fun t k => XS.aloadN X2.here hx rfl (hb hby own_pct_d9) rfl rfl k) ?_
  refine own_go (B := (T2.setTop (mkF m 11 #[rv th, rv pb, iv pn] [(.int pn), (.ref th)]))) (fun t k => XS.iloadN X2.here hx rfl (hb hby own_pct_d10) rfl k) ?_
  obtain ⟨T8, h8, X8, e8, W8, st8⟩ := putF X2 hx hZ hown (host := "") (Or.inl w_45) Via.refl e2 F7 F4 (Or.inr ⟨w_46, rfl, hnm⟩) w_37 (ty := .int) (by decide) rfl rfl (g := (mkF m 11 #[rv th, rv pb, iv pn] [(.int pn), (.ref th)])) rfl rfl (hb hby own_pct_d11)
  refine own_go (B := (T8.setTop (mkF m 14 #[rv th, rv pb, iv pn] []))) st8 ?_
  obtain ⟨L8, X8, N8⟩ := own_abs X8 (Fr.snoc X8 N2 g0)
  have F9 : n0 ≤ h8.size := by rw [W8.size]; exact F3
  have F10 := Exa.wr W8 F4
  have F11 := Keep.wr F5 W8 (Or.inl (List.mem_of_getElem? (i := 0) rfl))
  have F12 := Fld.other W8 F6 (Or.inr (slot_ne (t := (.object "com/example/parts_to_policy/partstopolicy/policy/Bdd")) (t' := .int) (Or.inr w_44) (Or.inr w_46) (by decide) (by decide) (by decide)))
  have F13 := Fld.same W8 F7
  exact own_retV X8 hx hlk Bd.returns (hb hby own_pct_d14) (own_b rfl) (own_b rfl) (Q := (own_pct_Q Z th pb pn h0 n0)) (by rw [e8]; exact ⟨rfl, N8, F11, F10, F12, F13⟩)

theorem own_eqnull_d0 : decode prog_106_method_8_code 0 = .ok (.aload_n 1, 1) := by decide +kernel
theorem own_eqnull_d1 : decode prog_106_method_8_code 1 = .ok (.instanceof 8, 3) := by decide +kernel
theorem own_eqnull_d4 : decode prog_106_method_8_code 4 = .ok (.ifCond .ne 5, 3) := by decide +kernel
theorem own_eqnull_d7 : decode prog_106_method_8_code 7 = .ok (.iconst 0, 1) := by decide +kernel
theorem own_eqnull_d8 : decode prog_106_method_8_code 8 = .ok (.ireturn, 1) := by decide +kernel
theorem own_eqnull_pn : plainName "com/example/parts_to_policy/partstopolicy/policy/PacketSet" = true := by first | (simp [plainName, overriddenIn]; done) | decide +kernel
theorem own_eqnull_ef (m : MethodId) (th : Addr) : entryFrame m #[(.ref th), .null] 3 = mkF m 0 #[rv th, .val .null, .unset] [] := by first | (simp [entryFrame, mkF, argsToLocals, Value.category]; done) | rfl
def own_eqnull_Q (Z : State) (th : Addr) (h0 : Heap) (n0 : Nat) (v : Option Value) (h : Heap) (L : List Loc) : Prop := v = some (.int 0) ∧ Fr n0 L ∧ h = h0
set_option maxRecDepth 65536 in
set_option maxHeartbeats 40000000 in
theorem own_eqnull (l : Launch) (Z : State) (a0 : Array Value) (hw : ∀ d ∈ tables_1, d.before a0 Z = true) (ws : List Jvm.Cond) (th : Addr) (h0 : Heap) (n0 : Nat) :
    MetFree l own_y7 (head1 (Jvm.Cond.code own_y7 prog_106_method_8_code 3 (some .boolean) :: ws) ({ frames := 0, cells := 0, slots := 0, locals := 0 } : Room)) (fun a U => a = #[(.ref th), .null] ∧ Z.Warmed39 U.vm ∧ U.heap = h0) (fun _ _ _ _ _ => True) (fun _ U o U' => ∃ v L, o = .returned v ∧ (own_eqnull_Q Z th h0 n0) v U'.heap L ∧ FrameEnd U o U' L ({ frames := 0, cells := 0, slots := 0, locals := 0 } : Room).cells ({ frames := 0, cells := 0, slots := 0, locals := 0 } : Room).slots) := by
  refine MetFree.of_bodySF (plainFor_of_name own_eqnull_pn) hisR ?_
  intro p e s m args below meth c s₁ Bd hml0 hP hK
  obtain ⟨rfl, hZ, hh⟩ := hP
  have hx := Bd.exec
  have hby := Bd.bytes
  have hml : c.maxLocals = 3 := hml0
  have hown : s.vm.findClass "com/example/parts_to_policy/partstopolicy/policy/PacketSet" = some m.cls := findClass_of_methodNamed Bd.named
  have hnm := (name_of_methodNamed Bd.named Bd.method).1
  have hlk : meth.locks = false := Bd.notSynchronized
  have X0 : Stand p l e ({ frames := 0, cells := 0, slots := 0, locals := 0 } : Room) s m #[(.ref th), .null] below meth c s₁ [] 0 0 := Stand.of_body Bd
  have e0 : s₁.heap = h0 := by rw [← hh, Bd.state]; rfl
  have N0 := Fr.nil n0
  show own_G p.tables e below (fun o U' => ∃ v L, o = .returned v ∧ (own_eqnull_Q Z th h0 n0) v U'.heap L ∧ FrameEnd s o U' L ({ frames := 0, cells := 0, slots := 0, locals := 0 } : Room).cells ({ frames := 0, cells := 0, slots := 0, locals := 0 } : Room).slots) (s₁.setTop (entryFrame m #[(.ref th), .null] 3))
  refine own_go (B := s₁.setTop (mkF m 0 #[rv th, .val .null, .unset] [])) (fun t k => castTop (own_eqnull_ef m th) k) ?_
  refine own_go (B := (s₁.setTop (mkF m 1 #[rv th, .val .null, .unset] [.null]))) (fun t k => XS.aloadN X0.here hx rfl (hb hby own_eqnull_d0) rfl rfl k) ?_
  refine own_go (B := (s₁.setTop (mkF m 4 #[rv th, .val .null, .unset] [(.int (0 : Int32))]))) (X0.instanceofNull hx (g := (mkF m 1 #[rv th, .val .null, .unset] [.null])) rfl rfl (hb hby own_eqnull_d1)) ?_
  have hc4 : (0 : Int32) = (0 : Int32) := (by decide)
  refine own_ifN X0 hx (hb hby own_eqnull_d4) (pn := 7) rfl hc4 ?_
  refine own_go (B := (s₁.setTop (mkF m 8 #[rv th, .val .null, .unset] [(.int (0 : Int32))]))) (fun t k => own_iconst (v := (0 : Int32)) X0.here hx rfl (hb hby own_eqnull_d7) (by decide) k) ?_
  exact own_retZ X0 hx hlk Bd.returns (hb hby own_eqnull_d8) (by decide) (own_b rfl) (own_b rfl) (Q := (own_eqnull_Q Z th h0 n0)) ⟨rfl, N0, e0⟩

theorem own_eqbdd_d0 : decode prog_106_method_8_code 0 = .ok (.aload_n 1, 1) := by decide +kernel
theorem own_eqbdd_d1 : decode prog_106_method_8_code 1 = .ok (.instanceof 8, 3) := by decide +kernel
theorem own_eqbdd_d4 : decode prog_106_method_8_code 4 = .ok (.ifCond .ne 5, 3) := by decide +kernel
theorem own_eqbdd_d7 : decode prog_106_method_8_code 7 = .ok (.iconst 0, 1) := by decide +kernel
theorem own_eqbdd_d8 : decode prog_106_method_8_code 8 = .ok (.ireturn, 1) := by decide +kernel
theorem own_eqbdd_pn : plainName "com/example/parts_to_policy/partstopolicy/policy/PacketSet" = true := by first | (simp [plainName, overriddenIn]; done) | decide +kernel
theorem own_eqbdd_ef (m : MethodId) (th : Addr) (ot : Addr) : entryFrame m #[(.ref th), (.ref ot)] 3 = mkF m 0 #[rv th, rv ot, .unset] [] := by first | (simp [entryFrame, mkF, argsToLocals, Value.category]; done) | rfl
def own_eqbdd_Q (Z : State) (th : Addr) (ot : Addr) (h0 : Heap) (n0 : Nat) (v : Option Value) (h : Heap) (L : List Loc) : Prop := v = some (.int 0) ∧ Fr n0 L ∧ h = h0
set_option maxRecDepth 65536 in
set_option maxHeartbeats 40000000 in
theorem own_eqbdd (l : Launch) (Z : State) (a0 : Array Value) (hw : ∀ d ∈ tables_1, d.before a0 Z = true) (ws : List Jvm.Cond) (th : Addr) (ot : Addr) (h0 : Heap) (n0 : Nat) (E1 : Exa Z h0 ot "com/example/parts_to_policy/partstopolicy/policy/Bdd") :
    MetFree l own_y7 (head1 (Jvm.Cond.code own_y7 prog_106_method_8_code 3 (some .boolean) :: ws) ({ frames := 0, cells := 0, slots := 0, locals := 0 } : Room)) (fun a U => a = #[(.ref th), (.ref ot)] ∧ Z.Warmed39 U.vm ∧ U.heap = h0) (fun _ _ _ _ _ => True) (fun _ U o U' => ∃ v L, o = .returned v ∧ (own_eqbdd_Q Z th ot h0 n0) v U'.heap L ∧ FrameEnd U o U' L ({ frames := 0, cells := 0, slots := 0, locals := 0 } : Room).cells ({ frames := 0, cells := 0, slots := 0, locals := 0 } : Room).slots) := by
  refine MetFree.of_bodySF (plainFor_of_name own_eqbdd_pn) hisR ?_
  intro p e s m args below meth c s₁ Bd hml0 hP hK
  obtain ⟨rfl, hZ, hh⟩ := hP
  have hx := Bd.exec
  have hby := Bd.bytes
  have hml : c.maxLocals = 3 := hml0
  have hown : s.vm.findClass "com/example/parts_to_policy/partstopolicy/policy/PacketSet" = some m.cls := findClass_of_methodNamed Bd.named
  have hnm := (name_of_methodNamed Bd.named Bd.method).1
  have hlk : meth.locks = false := Bd.notSynchronized
  have X0 : Stand p l e ({ frames := 0, cells := 0, slots := 0, locals := 0 } : Room) s m #[(.ref th), (.ref ot)] below meth c s₁ [] 0 0 := Stand.of_body Bd
  have e0 : s₁.heap = h0 := by rw [← hh, Bd.state]; rfl
  have N0 := Fr.nil n0
  have w_37 := hw _ (List.mem_of_getElem? (l := tables_1) (i := 37) rfl)
  have w_52 := hw _ (List.mem_of_getElem? (l := tables_1) (i := 52) rfl)
  have w_54 := hw _ (List.mem_of_getElem? (l := tables_1) (i := 54) rfl)
  have w_55 := hw _ (List.mem_of_getElem? (l := tables_1) (i := 55) rfl)
  show own_G p.tables e below (fun o U' => ∃ v L, o = .returned v ∧ (own_eqbdd_Q Z th ot h0 n0) v U'.heap L ∧ FrameEnd s o U' L ({ frames := 0, cells := 0, slots := 0, locals := 0 } : Room).cells ({ frames := 0, cells := 0, slots := 0, locals := 0 } : Room).slots) (s₁.setTop (entryFrame m #[(.ref th), (.ref ot)] 3))
  refine own_go (B := s₁.setTop (mkF m 0 #[rv th, rv ot, .unset] [])) (fun t k => castTop (own_eqbdd_ef m th ot) k) ?_
  refine own_go (B := (s₁.setTop (mkF m 1 #[rv th, rv ot, .unset] [(.ref ot)]))) (fun t k => XS.aloadN X0.here hx rfl (hb hby own_eqbdd_d0) rfl rfl k) ?_
  obtain ⟨T1, X1, e1, st1⟩ := instNo X0 hx hZ hown w_52 e0 E1 (own_noasg w_54 w_37 (NS.step w_54 (own_notinst w_55 w_37 (by decide)) (by decide)) (by decide)) (g := (mkF m 1 #[rv th, rv ot, .unset] [(.ref ot)])) rfl rfl (hb hby own_eqbdd_d1)
  refine own_go (B := (T1.setTop (mkF m 4 #[rv th, rv ot, .unset] [(.int (0 : Int32))]))) st1 ?_
  have hc4 : (0 : Int32) = (0 : Int32) := (by decide)
  refine own_ifN X1 hx (hb hby own_eqbdd_d4) (pn := 7) rfl hc4 ?_
  refine own_go (B := (T1.setTop (mkF m 8 #[rv th, rv ot, .unset] [(.int (0 : Int32))]))) (fun t k => own_iconst (v := (0 : Int32)) X1.here hx rfl (hb hby own_eqbdd_d7) (by decide) k) ?_
  exact own_retZ X1 hx hlk Bd.returns (hb hby own_eqbdd_d8) (by decide) (own_b rfl) (own_b rfl) (Q := (own_eqbdd_Q Z th ot h0 n0)) ⟨rfl, N0, e1⟩

theorem own_eqint__d0 : decode prog_106_method_8_code 0 = .ok (.aload_n 1, 1) := by decide +kernel
theorem own_eqint__d1 : decode prog_106_method_8_code 1 = .ok (.instanceof 8, 3) := by decide +kernel
theorem own_eqint__d4 : decode prog_106_method_8_code 4 = .ok (.ifCond .ne 5, 3) := by decide +kernel
theorem own_eqint__d7 : decode prog_106_method_8_code 7 = .ok (.iconst 0, 1) := by decide +kernel
theorem own_eqint__d8 : decode prog_106_method_8_code 8 = .ok (.ireturn, 1) := by decide +kernel
theorem own_eqint__pn : plainName "com/example/parts_to_policy/partstopolicy/policy/PacketSet" = true := by first | (simp [plainName, overriddenIn]; done) | decide +kernel
theorem own_eqint__ef (m : MethodId) (th : Addr) (ot : Addr) : entryFrame m #[(.ref th), (.ref ot)] 3 = mkF m 0 #[rv th, rv ot, .unset] [] := by first | (simp [entryFrame, mkF, argsToLocals, Value.category]; done) | rfl
def own_eqint__Q (Z : State) (th : Addr) (ot : Addr) (h0 : Heap) (n0 : Nat) (v : Option Value) (h : Heap) (L : List Loc) : Prop := v = some (.int 0) ∧ Fr n0 L ∧ h = h0
set_option maxRecDepth 65536 in
set_option maxHeartbeats 40000000 in
theorem own_eqint_ (l : Launch) (Z : State) (a0 : Array Value) (hw : ∀ d ∈ tables_1, d.before a0 Z = true) (ws : List Jvm.Cond) (th : Addr) (ot : Addr) (h0 : Heap) (n0 : Nat) (E1 : Exa Z h0 ot "java/lang/Integer") :
    MetFree l own_y7 (head1 (Jvm.Cond.code own_y7 prog_106_method_8_code 3 (some .boolean) :: ws) ({ frames := 0, cells := 0, slots := 0, locals := 0 } : Room)) (fun a U => a = #[(.ref th), (.ref ot)] ∧ Z.Warmed39 U.vm ∧ U.heap = h0) (fun _ _ _ _ _ => True) (fun _ U o U' => ∃ v L, o = .returned v ∧ (own_eqint__Q Z th ot h0 n0) v U'.heap L ∧ FrameEnd U o U' L ({ frames := 0, cells := 0, slots := 0, locals := 0 } : Room).cells ({ frames := 0, cells := 0, slots := 0, locals := 0 } : Room).slots) := by
  refine MetFree.of_bodySF (plainFor_of_name own_eqint__pn) hisR ?_
  intro p e s m args below meth c s₁ Bd hml0 hP hK
  obtain ⟨rfl, hZ, hh⟩ := hP
  have hx := Bd.exec
  have hby := Bd.bytes
  have hml : c.maxLocals = 3 := hml0
  have hown : s.vm.findClass "com/example/parts_to_policy/partstopolicy/policy/PacketSet" = some m.cls := findClass_of_methodNamed Bd.named
  have hnm := (name_of_methodNamed Bd.named Bd.method).1
  have hlk : meth.locks = false := Bd.notSynchronized
  have X0 : Stand p l e ({ frames := 0, cells := 0, slots := 0, locals := 0 } : Room) s m #[(.ref th), (.ref ot)] below meth c s₁ [] 0 0 := Stand.of_body Bd
  have e0 : s₁.heap = h0 := by rw [← hh, Bd.state]; rfl
  have N0 := Fr.nil n0
  have w_37 := hw _ (List.mem_of_getElem? (l := tables_1) (i := 37) rfl)
  have w_52 := hw _ (List.mem_of_getElem? (l := tables_1) (i := 52) rfl)
  have w_55 := hw _ (List.mem_of_getElem? (l := tables_1) (i := 55) rfl)
  have w_63 := hw _ (List.mem_of_getElem? (l := tables_1) (i := 63) rfl)
  have w_64 := hw _ (List.mem_of_getElem? (l := tables_1) (i := 64) rfl)
  show own_G p.tables e below (fun o U' => ∃ v L, o = .returned v ∧ (own_eqint__Q Z th ot h0 n0) v U'.heap L ∧ FrameEnd s o U' L ({ frames := 0, cells := 0, slots := 0, locals := 0 } : Room).cells ({ frames := 0, cells := 0, slots := 0, locals := 0 } : Room).slots) (s₁.setTop (entryFrame m #[(.ref th), (.ref ot)] 3))
  refine own_go (B := s₁.setTop (mkF m 0 #[rv th, rv ot, .unset] [])) (fun t k => castTop (own_eqint__ef m th ot) k) ?_
  refine own_go (B := (s₁.setTop (mkF m 1 #[rv th, rv ot, .unset] [(.ref ot)]))) (fun t k => XS.aloadN X0.here hx rfl (hb hby own_eqint__d0) rfl rfl k) ?_
  obtain ⟨T1, X1, e1, st1⟩ := instNo X0 hx hZ hown w_52 e0 E1 (own_noasg w_63 w_37 (NS.step w_63 (NS.step w_64 (own_notinst w_55 w_37 (by decide)) (by decide)) (by decide)) (by decide)) (g := (mkF m 1 #[rv th, rv ot, .unset] [(.ref ot)])) rfl rfl (hb hby own_eqint__d1)
  refine own_go (B := (T1.setTop (mkF m 4 #[rv th, rv ot, .unset] [(.int (0 : Int32))]))) st1 ?_
  have hc4 : (0 : Int32) = (0 : Int32) := (by decide)
  refine own_ifN X1 hx (hb hby own_eqint__d4) (pn := 7) rfl hc4 ?_
  refine own_go (B := (T1.setTop (mkF m 8 #[rv th, rv ot, .unset] [(.int (0 : Int32))]))) (fun t k => own_iconst (v := (0 : Int32)) X1.here hx rfl (hb hby own_eqint__d7) (by decide) k) ?_
  exact own_retZ X1 hx hlk Bd.returns (hb hby own_eqint__d8) (by decide) (own_b rfl) (own_b rfl) (Q := (own_eqint__Q Z th ot h0 n0)) ⟨rfl, N0, e1⟩

theorem own_eqT_d0 : decode prog_106_method_8_code 0 = .ok (.aload_n 1, 1) := by decide +kernel
theorem own_eqT_d1 : decode prog_106_method_8_code 1 = .ok (.instanceof 8, 3) := by decide +kernel
theorem own_eqT_d4 : decode prog_106_method_8_code 4 = .ok (.ifCond .ne 5, 3) := by decide +kernel
theorem own_eqT_d9 : decode prog_106_method_8_code 9 = .ok (.aload_n 1, 1) := by decide +kernel
theorem own_eqT_d10 : decode prog_106_method_8_code 10 = .ok (.checkcast 8, 3) := by decide +kernel
theorem own_eqT_d13 : decode prog_106_method_8_code 13 = .ok (.astore_n 2, 1) := by decide +kernel
theorem own_eqT_d14 : decode prog_106_method_8_code 14 = .ok (.aload_n 0, 1) := by decide +kernel
theorem own_eqT_d15 : decode prog_106_method_8_code 15 = .ok (.getfield 7, 3) := by decide +kernel
theorem own_eqT_d18 : decode prog_106_method_8_code 18 = .ok (.aload_n 2, 1) := by decide +kernel
theorem own_eqT_d19 : decode prog_106_method_8_code 19 = .ok (.getfield 7, 3) := by decide +kernel
theorem own_eqT_d22 : decode prog_106_method_8_code 22 = .ok (.if_acmp .ne 18, 3) := by decide +kernel
theorem own_eqT_d25 : decode prog_106_method_8_code 25 = .ok (.aload_n 0, 1) := by decide +kernel
theorem own_eqT_d26 : decode prog_106_method_8_code 26 = .ok (.getfield 13, 3) := by decide +kernel
theorem own_eqT_d29 : decode prog_106_method_8_code 29 = .ok (.aload_n 2, 1) := by decide +kernel
theorem own_eqT_d30 : decode prog_106_method_8_code 30 = .ok (.getfield 13, 3) := by decide +kernel
theorem own_eqT_d33 : decode prog_106_method_8_code 33 = .ok (.if_icmp .ne 7, 3) := by decide +kernel
theorem own_eqT_d36 : decode prog_106_method_8_code 36 = .ok (.iconst 1, 1) := by decide +kernel
theorem own_eqT_d37 : decode prog_106_method_8_code 37 = .ok (.goto 4, 3) := by decide +kernel
theorem own_eqT_d41 : decode prog_106_method_8_code 41 = .ok (.ireturn, 1) := by decide +kernel
theorem own_eqT_pn : plainName "com/example/parts_to_policy/partstopolicy/policy/PacketSet" = true := by first | (simp [plainName, overriddenIn]; done) | decide +kernel
theorem own_eqT_ef (m : MethodId) (th : Addr) (ot : Addr) : entryFrame m #[(.ref th), (.ref ot)] 3 = mkF m 0 #[rv th, rv ot, .unset] [] := by first | (simp [entryFrame, mkF, argsToLocals, Value.category]; done) | rfl
def own_eqT_Q (Z : State) (th : Addr) (ot : Addr) (bb : Addr) (m1 m2 : Int32) (h0 : Heap) (n0 : Nat) (v : Option Value) (h : Heap) (L : List Loc) : Prop := v = some (.int 1) ∧ Fr n0 L ∧ h = h0
set_option maxRecDepth 65536 in
set_option maxHeartbeats 40000000 in
theorem own_eqT (l : Launch) (Z : State) (a0 : Array Value) (hw : ∀ d ∈ tables_1, d.before a0 Z = true) (ws : List Jvm.Cond) (th : Addr) (ot : Addr) (bb : Addr) (m1 m2 : Int32) (h0 : Heap) (n0 : Nat) (E1 : Exa Z h0 ot "com/example/parts_to_policy/partstopolicy/policy/PacketSet") (F1 : Fld Z h0 th "com/example/parts_to_policy/partstopolicy/policy/PacketSet" "bdd" "Lcom/example/parts_to_policy/partstopolicy/policy/Bdd;" (.ref bb)) (F2 : Fld Z h0 ot "com/example/parts_to_policy/partstopolicy/policy/PacketSet" "bdd" "Lcom/example/parts_to_policy/partstopolicy/policy/Bdd;" (.ref bb)) (F3 : Fld Z h0 th "com/example/parts_to_policy/partstopolicy/policy/PacketSet" "node" "I" (.int m1)) (F4 : Fld Z h0 ot "com/example/parts_to_policy/partstopolicy/policy/PacketSet" "node" "I" (.int m2)) (hm : m1 = m2) :
    MetFree l own_y7 (head1 (Jvm.Cond.code own_y7 prog_106_method_8_code 3 (some .boolean) :: ws) ({ frames := 0, cells := 0, slots := 0, locals := 0 } : Room)) (fun a U => a = #[(.ref th), (.ref ot)] ∧ Z.Warmed39 U.vm ∧ U.heap = h0) (fun _ _ _ _ _ => True) (fun _ U o U' => ∃ v L, o = .returned v ∧ (own_eqT_Q Z th ot bb m1 m2 h0 n0) v U'.heap L ∧ FrameEnd U o U' L ({ frames := 0, cells := 0, slots := 0, locals := 0 } : Room).cells ({ frames := 0, cells := 0, slots := 0, locals := 0 } : Room).slots) := by
  refine MetFree.of_bodySF (plainFor_of_name own_eqT_pn) hisR ?_
  intro p e s m args below meth c s₁ Bd hml0 hP hK
  obtain ⟨rfl, hZ, hh⟩ := hP
  have hx := Bd.exec
  have hby := Bd.bytes
  have hml : c.maxLocals = 3 := hml0
  have hown : s.vm.findClass "com/example/parts_to_policy/partstopolicy/policy/PacketSet" = some m.cls := findClass_of_methodNamed Bd.named
  have hnm := (name_of_methodNamed Bd.named Bd.method).1
  have hlk : meth.locks = false := Bd.notSynchronized
  have X0 : Stand p l e ({ frames := 0, cells := 0, slots := 0, locals := 0 } : Room) s m #[(.ref th), (.ref ot)] below meth c s₁ [] 0 0 := Stand.of_body Bd
  have e0 : s₁.heap = h0 := by rw [← hh, Bd.state]; rfl
  have N0 := Fr.nil n0
  have w_43 := hw _ (List.mem_of_getElem? (l := tables_1) (i := 43) rfl)
  have w_45 := hw _ (List.mem_of_getElem? (l := tables_1) (i := 45) rfl)
  have w_52 := hw _ (List.mem_of_getElem? (l := tables_1) (i := 52) rfl)
  have w_53 := hw _ (List.mem_of_getElem? (l := tables_1) (i := 53) rfl)
  show own_G p.tables e below (fun o U' => ∃ v L, o = .returned v ∧ (own_eqT_Q Z th ot bb m1 m2 h0 n0) v U'.heap L ∧ FrameEnd s o U' L ({ frames := 0, cells := 0, slots := 0, locals := 0 } : Room).cells ({ frames := 0, cells := 0, slots := 0, locals := 0 } : Room).slots) (s₁.setTop (entryFrame m #[(.ref th), (.ref ot)] 3))
  refine own_go (B := s₁.setTop (mkF m 0 #[rv th, rv ot, .unset] [])) (fun t k => castTop (own_eqT_ef m th ot) k) ?_
  refine own_go (B := (s₁.setTop (mkF m 1 #[rv th, rv ot, .unset] [(.ref ot)]))) (fun t k => XS.aloadN X0.here hx rfl (hb hby own_eqT_d0) rfl rfl k) ?_
  obtain ⟨T21, X21, e21, st21⟩ := instY X0 hx hZ hown w_52 e0 (Ins.of_exa E1 w_53) (g := (mkF m 1 #[rv th, rv ot, .unset] [(.ref ot)])) rfl rfl (hb hby own_eqT_d1)
  refine own_go (B := (T21.setTop (mkF m 4 #[rv th, rv ot, .unset] [(.int (1 : Int32))]))) st21 ?_
  have hc4 : ¬ (1 : Int32) = (0 : Int32) := (by decide)
  refine own_ifY X21 hx (hb hby own_eqT_d4) (pc' := 9) (by decide) (by decide) hc4 ?_
  refine own_go (B := (T21.setTop (mkF m 10 #[rv th, rv ot, .unset] [(.ref ot)]))) (fun t k => XS.aloadN X21.here hx rfl (hb hby own_eqT_d9) rfl rfl k) ?_
  obtain ⟨T22, X22, e22, st22⟩ := castY X21 hx hZ hown w_52 e21 (Ins.of_exa E1 w_53) (g := (mkF m 10 #[rv th, rv ot, .unset] [(.ref ot)])) rfl rfl (hb hby own_eqT_d10)
  refine own_go (B := (T22.setTop (mkF m 13 #[rv th, rv ot, .unset] [(.ref ot)]))) st22 ?_
  refine own_go (B := (T22.setTop (mkF m 14 #[rv th, rv ot, rv ot] []))) (fun t k => XS.astoreN X22.here hx rfl (hb hby own_eqT_d13) rfl rfl (l' := #[rv th, rv ot, rv ot]) rfl k) ?_
  refine own_go (B := (T22.setTop (mkF m 15 #[rv th, rv ot, rv ot] [(.ref th)]))) (fun t k => XS.aloadN X22.here hx rfl (hb hby own_eqT_d14) rfl rfl k) ?_
  obtain ⟨T23, X23, e23, st23⟩ := getF X22 hx hZ hown (host := "") (Or.inl w_43) Via.refl e22 F1 (g := (mkF m 15 #[rv th, rv ot, rv ot] [(.ref th)])) rfl rfl (hb hby own_eqT_d15)
  refine own_go (B := (T23.setTop (mkF m 18 #[rv th, rv ot, rv ot] [(.ref bb)]))) st23 ?_
  refine own_go (B := (T23.setTop (mkF m 19 #[rv th, rv ot, rv ot] [(.ref ot), (.ref bb)]))) (fun t k => XS.aloadN X23.here hx rfl (hb hby own_eqT_d18) rfl rfl k) ?_
  obtain ⟨T24, X24, e24, st24⟩ := getF X23 hx hZ hown (host := "") (Or.inl w_43) Via.refl e23 F2 (g := (mkF m 19 #[rv th, rv ot, rv ot] [(.ref ot), (.ref bb)])) rfl rfl (hb hby own_eqT_d19)
  refine own_go (B := (T24.setTop (mkF m 22 #[rv th, rv ot, rv ot] [(.ref bb), (.ref bb)]))) st24 ?_
  have hc22 : bb = bb := rfl
  refine own_acmpAE X24 hx (hb hby own_eqT_d22) (pc' := 25) (by decide) (by decide) hc22 ?_
  refine own_go (B := (T24.setTop (mkF m 26 #[rv th, rv ot, rv ot] [(.ref th)]))) (fun t k => XS.aloadN X24.here hx rfl (hb hby own_eqT_d25) rfl rfl k) ?_
  obtain ⟨T25, X25, e25, st25⟩ := getF X24 hx hZ hown (host := "") (Or.inl w_45) Via.refl e24 F3 (g := (mkF m 26 #[rv th, rv ot, rv ot] [(.ref th)])) rfl rfl (hb hby own_eqT_d26)
  refine own_go (B := (T25.setTop (mkF m 29 #[rv th, rv ot, rv ot] [(.int m1)]))) st25 ?_
  refine own_go (B := (T25.setTop (mkF m 30 #[rv th, rv ot, rv ot] [(.ref ot), (.int m1)]))) (fun t k => XS.aloadN X25.here hx rfl (hb hby own_eqT_d29) rfl rfl k) ?_
  obtain ⟨T26, X26, e26, st26⟩ := getF X25 hx hZ hown (host := "") (Or.inl w_45) Via.refl e25 F4 (g := (mkF m 30 #[rv th, rv ot, rv ot] [(.ref ot), (.int m1)])) rfl rfl (hb hby own_eqT_d30)
  refine own_go (B := (T26.setTop (mkF m 33 #[rv th, rv ot, rv ot] [(.int m2), (.int m1)]))) st26 ?_
  have hc33 : m1 = m2 := hm
  refine own_icmpN X26 hx (hb hby own_eqT_d33) (pn := 36) rfl hc33 ?_
  refine own_go (B := (T26.setTop (mkF m 37 #[rv th, rv ot, rv ot] [(.int (1 : Int32))]))) (fun t k => own_iconst (v := (1 : Int32)) X26.here hx rfl (hb hby own_eqT_d36) (by decide) k) ?_
  refine own_go (B := (T26.setTop (mkF m 41 #[rv th, rv ot, rv ot] [(.int (1 : Int32))]))) (fun t k => XS.goto X26.here hx rfl (pc0 := 37) (pc' := 41) rfl (hb hby own_eqT_d37) (by decide) (by decide) k) ?_
  exact own_retZ X26 hx hlk Bd.returns (hb hby own_eqT_d41) (by decide) (own_b rfl) (own_b rfl) (Q := (own_eqT_Q Z th ot bb m1 m2 h0 n0)) ⟨rfl, N0, e26⟩

theorem own_eqB_d0 : decode prog_106_method_8_code 0 = .ok (.aload_n 1, 1) := by decide +kernel
theorem own_eqB_d1 : decode prog_106_method_8_code 1 = .ok (.instanceof 8, 3) := by decide +kernel
theorem own_eqB_d4 : decode prog_106_method_8_code 4 = .ok (.ifCond .ne 5, 3) := by decide +kernel
theorem own_eqB_d9 : decode prog_106_method_8_code 9 = .ok (.aload_n 1, 1) := by decide +kernel
theorem own_eqB_d10 : decode prog_106_method_8_code 10 = .ok (.checkcast 8, 3) := by decide +kernel
theorem own_eqB_d13 : decode prog_106_method_8_code 13 = .ok (.astore_n 2, 1) := by decide +kernel
theorem own_eqB_d14 : decode prog_106_method_8_code 14 = .ok (.aload_n 0, 1) := by decide +kernel
theorem own_eqB_d15 : decode prog_106_method_8_code 15 = .ok (.getfield 7, 3) := by decide +kernel
theorem own_eqB_d18 : decode prog_106_method_8_code 18 = .ok (.aload_n 2, 1) := by decide +kernel
theorem own_eqB_d19 : decode prog_106_method_8_code 19 = .ok (.getfield 7, 3) := by decide +kernel
theorem own_eqB_d22 : decode prog_106_method_8_code 22 = .ok (.if_acmp .ne 18, 3) := by decide +kernel
theorem own_eqB_d40 : decode prog_106_method_8_code 40 = .ok (.iconst 0, 1) := by decide +kernel
theorem own_eqB_d41 : decode prog_106_method_8_code 41 = .ok (.ireturn, 1) := by decide +kernel
theorem own_eqB_pn : plainName "com/example/parts_to_policy/partstopolicy/policy/PacketSet" = true := by first | (simp [plainName, overriddenIn]; done) | decide +kernel
theorem own_eqB_ef (m : MethodId) (th : Addr) (ot : Addr) : entryFrame m #[(.ref th), (.ref ot)] 3 = mkF m 0 #[rv th, rv ot, .unset] [] := by first | (simp [entryFrame, mkF, argsToLocals, Value.category]; done) | rfl
def own_eqB_Q (Z : State) (th : Addr) (ot : Addr) (b1 b2 : Addr) (m1 m2 : Int32) (h0 : Heap) (n0 : Nat) (v : Option Value) (h : Heap) (L : List Loc) : Prop := v = some (.int 0) ∧ Fr n0 L ∧ h = h0
set_option maxRecDepth 65536 in
set_option maxHeartbeats 40000000 in
theorem own_eqB (l : Launch) (Z : State) (a0 : Array Value) (hw : ∀ d ∈ tables_1, d.before a0 Z = true) (ws : List Jvm.Cond) (th : Addr) (ot : Addr) (b1 b2 : Addr) (m1 m2 : Int32) (h0 : Heap) (n0 : Nat) (E1 : Exa Z h0 ot "com/example/parts_to_policy/partstopolicy/policy/PacketSet") (F1 : Fld Z h0 th "com/example/parts_to_policy/partstopolicy/policy/PacketSet" "bdd" "Lcom/example/parts_to_policy/partstopolicy/policy/Bdd;" (.ref b1)) (F2 : Fld Z h0 ot "com/example/parts_to_policy/partstopolicy/policy/PacketSet" "bdd" "Lcom/example/parts_to_policy/partstopolicy/policy/Bdd;" (.ref b2)) (F3 : Fld Z h0 th "com/example/parts_to_policy/partstopolicy/policy/PacketSet" "node" "I" (.int m1)) (F4 : Fld Z h0 ot "com/example/parts_to_policy/partstopolicy/policy/PacketSet" "node" "I" (.int m2)) (hbb : ¬ b1 = b2) :
    MetFree l own_y7 (head1 (Jvm.Cond.code own_y7 prog_106_method_8_code 3 (some .boolean) :: ws) ({ frames := 0, cells := 0, slots := 0, locals := 0 } : Room)) (fun a U => a = #[(.ref th), (.ref ot)] ∧ Z.Warmed39 U.vm ∧ U.heap = h0) (fun _ _ _ _ _ => True) (fun _ U o U' => ∃ v L, o = .returned v ∧ (own_eqB_Q Z th ot b1 b2 m1 m2 h0 n0) v U'.heap L ∧ FrameEnd U o U' L ({ frames := 0, cells := 0, slots := 0, locals := 0 } : Room).cells ({ frames := 0, cells := 0, slots := 0, locals := 0 } : Room).slots) := by
  refine MetFree.of_bodySF (plainFor_of_name own_eqB_pn) hisR ?_
  intro p e s m args below meth c s₁ Bd hml0 hP hK
  obtain ⟨rfl, hZ, hh⟩ := hP
  have hx := Bd.exec
  have hby := Bd.bytes
  have hml : c.maxLocals = 3 := hml0
  have hown : s.vm.findClass "com/example/parts_to_policy/partstopolicy/policy/PacketSet" = some m.cls := findClass_of_methodNamed Bd.named
  have hnm := (name_of_methodNamed Bd.named Bd.method).1
  have hlk : meth.locks = false := Bd.notSynchronized
  have X0 : Stand p l e ({ frames := 0, cells := 0, slots := 0, locals := 0 } : Room) s m #[(.ref th), (.ref ot)] below meth c s₁ [] 0 0 := Stand.of_body Bd
  have e0 : s₁.heap = h0 := by rw [← hh, Bd.state]; rfl
  have N0 := Fr.nil n0
  have w_43 := hw _ (List.mem_of_getElem? (l := tables_1) (i := 43) rfl)
  have w_52 := hw _ (List.mem_of_getElem? (l := tables_1) (i := 52) rfl)
  have w_53 := hw _ (List.mem_of_getElem? (l := tables_1) (i := 53) rfl)
  show own_G p.tables e below (fun o U' => ∃ v L, o = .returned v ∧ (own_eqB_Q Z th ot b1 b2 m1 m2 h0 n0) v U'.heap L ∧ FrameEnd s o U' L ({ frames := 0, cells := 0, slots := 0, locals := 0 } : Room).cells ({ frames := 0, cells := 0, slots := 0, locals := 0 } : Room).slots) (s₁.setTop (entryFrame m #[(.ref th), (.ref ot)] 3))
  refine own_go (B := s₁.setTop (mkF m 0 #[rv th, rv ot, .unset] [])) (fun t k => castTop (own_eqB_ef m th ot) k) ?_
  refine own_go (B := (s₁.setTop (mkF m 1 #[rv th, rv ot, .unset] [(.ref ot)]))) (fun t k => XS.aloadN X0.here hx rfl (hb hby own_eqB_d0) rfl rfl k) ?_
  obtain ⟨T21, X21, e21, st21⟩ := instY X0 hx hZ hown w_52 e0 (Ins.of_exa E1 w_53) (g := (mkF m 1 #[rv th, rv ot, .unset] [(.ref ot)])) rfl rfl (hb hby own_eqB_d1)
  refine own_go (B := (T21.setTop (mkF m 4 #[rv th, rv ot, .unset] [(.int (1 : Int32))]))) st21 ?_
  have hc4 : ¬ (1 : Int32) = (0 : Int32) := (by decide)
  refine own_ifY X21 hx (hb hby own_eqB_d4) (pc' := 9) (by decide) (by decide) hc4 ?_
  refine own_go (B := (T21.setTop (mkF m 10 #[rv th, rv ot, .unset] [(.ref ot)]))) (fun t k => XS.aloadN X21.here hx rfl (hb hby own_eqB_d9) rfl rfl k) ?_
  obtain ⟨T22, X22, e22, st22⟩ := castY X21 hx hZ hown w_52 e21 (Ins.of_exa E1 w_53) (g := (mkF m 10 #[rv th, rv ot, .unset] [(.ref ot)])) rfl rfl (hb hby own_eqB_d10)
  refine own_go (B := (T22.setTop (mkF m 13 #[rv th, rv ot, .unset] [(.ref ot)]))) st22 ?_
  refine own_go (B := (T22.setTop (mkF m 14 #[rv th, rv ot, rv ot] []))) (fun t k => XS.astoreN X22.here hx rfl (hb hby own_eqB_d13) rfl rfl (l' := #[rv th, rv ot, rv ot]) rfl k) ?_
  refine own_go (B := (T22.setTop (mkF m 15 #[rv th, rv ot, rv ot] [(.ref th)]))) (fun t k => XS.aloadN X22.here hx rfl (hb hby own_eqB_d14) rfl rfl k) ?_
  obtain ⟨T23, X23, e23, st23⟩ := getF X22 hx hZ hown (host := "") (Or.inl w_43) Via.refl e22 F1 (g := (mkF m 15 #[rv th, rv ot, rv ot] [(.ref th)])) rfl rfl (hb hby own_eqB_d15)
  refine own_go (B := (T23.setTop (mkF m 18 #[rv th, rv ot, rv ot] [(.ref b1)]))) st23 ?_
  refine own_go (B := (T23.setTop (mkF m 19 #[rv th, rv ot, rv ot] [(.ref ot), (.ref b1)]))) (fun t k => XS.aloadN X23.here hx rfl (hb hby own_eqB_d18) rfl rfl k) ?_
  obtain ⟨T24, X24, e24, st24⟩ := getF X23 hx hZ hown (host := "") (Or.inl w_43) Via.refl e23 F2 (g := (mkF m 19 #[rv th, rv ot, rv ot] [(.ref ot), (.ref b1)])) rfl rfl (hb hby own_eqB_d19)
  refine own_go (B := (T24.setTop (mkF m 22 #[rv th, rv ot, rv ot] [(.ref b2), (.ref b1)]))) st24 ?_
  have hc22 : ¬ b1 = b2 := hbb
  refine own_acmpAD X24 hx (hb hby own_eqB_d22) (pc' := 40) (by decide) (by decide) hc22 ?_
  refine own_go (B := (T24.setTop (mkF m 41 #[rv th, rv ot, rv ot] [(.int (0 : Int32))]))) (fun t k => own_iconst (v := (0 : Int32)) X24.here hx rfl (hb hby own_eqB_d40) (by decide) k) ?_
  exact own_retZ X24 hx hlk Bd.returns (hb hby own_eqB_d41) (by decide) (own_b rfl) (own_b rfl) (Q := (own_eqB_Q Z th ot b1 b2 m1 m2 h0 n0)) ⟨rfl, N0, e24⟩

theorem own_eqN_d0 : decode prog_106_method_8_code 0 = .ok (.aload_n 1, 1) := by decide +kernel
theorem own_eqN_d1 : decode prog_106_method_8_code 1 = .ok (.instanceof 8, 3) := by decide +kernel
theorem own_eqN_d4 : decode prog_106_method_8_code 4 = .ok (.ifCond .ne 5, 3) := by decide +kernel
theorem own_eqN_d9 : decode prog_106_method_8_code 9 = .ok (.aload_n 1, 1) := by decide +kernel
theorem own_eqN_d10 : decode prog_106_method_8_code 10 = .ok (.checkcast 8, 3) := by decide +kernel
theorem own_eqN_d13 : decode prog_106_method_8_code 13 = .ok (.astore_n 2, 1) := by decide +kernel
theorem own_eqN_d14 : decode prog_106_method_8_code 14 = .ok (.aload_n 0, 1) := by decide +kernel
theorem own_eqN_d15 : decode prog_106_method_8_code 15 = .ok (.getfield 7, 3) := by decide +kernel
theorem own_eqN_d18 : decode prog_106_method_8_code 18 = .ok (.aload_n 2, 1) := by decide +kernel
theorem own_eqN_d19 : decode prog_106_method_8_code 19 = .ok (.getfield 7, 3) := by decide +kernel
theorem own_eqN_d22 : decode prog_106_method_8_code 22 = .ok (.if_acmp .ne 18, 3) := by decide +kernel
theorem own_eqN_d25 : decode prog_106_method_8_code 25 = .ok (.aload_n 0, 1) := by decide +kernel
theorem own_eqN_d26 : decode prog_106_method_8_code 26 = .ok (.getfield 13, 3) := by decide +kernel
theorem own_eqN_d29 : decode prog_106_method_8_code 29 = .ok (.aload_n 2, 1) := by decide +kernel
theorem own_eqN_d30 : decode prog_106_method_8_code 30 = .ok (.getfield 13, 3) := by decide +kernel
theorem own_eqN_d33 : decode prog_106_method_8_code 33 = .ok (.if_icmp .ne 7, 3) := by decide +kernel
theorem own_eqN_d40 : decode prog_106_method_8_code 40 = .ok (.iconst 0, 1) := by decide +kernel
theorem own_eqN_d41 : decode prog_106_method_8_code 41 = .ok (.ireturn, 1) := by decide +kernel
theorem own_eqN_pn : plainName "com/example/parts_to_policy/partstopolicy/policy/PacketSet" = true := by first | (simp [plainName, overriddenIn]; done) | decide +kernel
theorem own_eqN_ef (m : MethodId) (th : Addr) (ot : Addr) : entryFrame m #[(.ref th), (.ref ot)] 3 = mkF m 0 #[rv th, rv ot, .unset] [] := by first | (simp [entryFrame, mkF, argsToLocals, Value.category]; done) | rfl
def own_eqN_Q (Z : State) (th : Addr) (ot : Addr) (bb : Addr) (m1 m2 : Int32) (h0 : Heap) (n0 : Nat) (v : Option Value) (h : Heap) (L : List Loc) : Prop := v = some (.int 0) ∧ Fr n0 L ∧ h = h0
set_option maxRecDepth 65536 in
set_option maxHeartbeats 40000000 in
theorem own_eqN (l : Launch) (Z : State) (a0 : Array Value) (hw : ∀ d ∈ tables_1, d.before a0 Z = true) (ws : List Jvm.Cond) (th : Addr) (ot : Addr) (bb : Addr) (m1 m2 : Int32) (h0 : Heap) (n0 : Nat) (E1 : Exa Z h0 ot "com/example/parts_to_policy/partstopolicy/policy/PacketSet") (F1 : Fld Z h0 th "com/example/parts_to_policy/partstopolicy/policy/PacketSet" "bdd" "Lcom/example/parts_to_policy/partstopolicy/policy/Bdd;" (.ref bb)) (F2 : Fld Z h0 ot "com/example/parts_to_policy/partstopolicy/policy/PacketSet" "bdd" "Lcom/example/parts_to_policy/partstopolicy/policy/Bdd;" (.ref bb)) (F3 : Fld Z h0 th "com/example/parts_to_policy/partstopolicy/policy/PacketSet" "node" "I" (.int m1)) (F4 : Fld Z h0 ot "com/example/parts_to_policy/partstopolicy/policy/PacketSet" "node" "I" (.int m2)) (hm : ¬ m1 = m2) :
    MetFree l own_y7 (head1 (Jvm.Cond.code own_y7 prog_106_method_8_code 3 (some .boolean) :: ws) ({ frames := 0, cells := 0, slots := 0, locals := 0 } : Room)) (fun a U => a = #[(.ref th), (.ref ot)] ∧ Z.Warmed39 U.vm ∧ U.heap = h0) (fun _ _ _ _ _ => True) (fun _ U o U' => ∃ v L, o = .returned v ∧ (own_eqN_Q Z th ot bb m1 m2 h0 n0) v U'.heap L ∧ FrameEnd U o U' L ({ frames := 0, cells := 0, slots := 0, locals := 0 } : Room).cells ({ frames := 0, cells := 0, slots := 0, locals := 0 } : Room).slots) := by
  refine MetFree.of_bodySF (plainFor_of_name own_eqN_pn) hisR ?_
  intro p e s m args below meth c s₁ Bd hml0 hP hK
  obtain ⟨rfl, hZ, hh⟩ := hP
  have hx := Bd.exec
  have hby := Bd.bytes
  have hml : c.maxLocals = 3 := hml0
  have hown : s.vm.findClass "com/example/parts_to_policy/partstopolicy/policy/PacketSet" = some m.cls := findClass_of_methodNamed Bd.named
  have hnm := (name_of_methodNamed Bd.named Bd.method).1
  have hlk : meth.locks = false := Bd.notSynchronized
  have X0 : Stand p l e ({ frames := 0, cells := 0, slots := 0, locals := 0 } : Room) s m #[(.ref th), (.ref ot)] below meth c s₁ [] 0 0 := Stand.of_body Bd
  have e0 : s₁.heap = h0 := by rw [← hh, Bd.state]; rfl
  have N0 := Fr.nil n0
  have w_43 := hw _ (List.mem_of_getElem? (l := tables_1) (i := 43) rfl)
  have w_45 := hw _ (List.mem_of_getElem? (l := tables_1) (i := 45) rfl)
  have w_52 := hw _ (List.mem_of_getElem? (l := tables_1) (i := 52) rfl)
  have w_53 := hw _ (List.mem_of_getElem? (l := tables_1) (i := 53) rfl)
  show own_G p.tables e below (fun o U' => ∃ v L, o = .returned v ∧ (own_eqN_Q Z th ot bb m1 m2 h0 n0) v U'.heap L ∧ FrameEnd s o U' L ({ frames := 0, cells := 0, slots := 0, locals := 0 } : Room).cells ({ frames := 0, cells := 0, slots := 0, locals := 0 } : Room).slots) (s₁.setTop (entryFrame m #[(.ref th), (.ref ot)] 3))
  refine own_go (B := s₁.setTop (mkF m 0 #[rv th, rv ot, .unset] [])) (fun t k => castTop (own_eqN_ef m th ot) k) ?_
  refine own_go (B := (s₁.setTop (mkF m 1 #[rv th, rv ot, .unset] [(.ref ot)]))) (fun t k => XS.aloadN X0.here hx rfl (hb hby own_eqN_d0) rfl rfl k) ?_
  obtain ⟨T21, X21, e21, st21⟩ := instY X0 hx hZ hown w_52 e0 (Ins.of_exa E1 w_53) (g := (mkF m 1 #[rv th, rv ot, .unset] [(.ref ot)])) rfl rfl (hb hby own_eqN_d1)
  refine own_go (B := (T21.setTop (mkF m 4 #[rv th, rv ot, .unset] [(.int (1 : Int32))]))) st21 ?_
  have hc4 : ¬ (1 : Int32) = (0 : Int32) := (by decide)
  refine own_ifY X21 hx (hb hby own_eqN_d4) (pc' := 9) (by decide) (by decide) hc4 ?_
  refine own_go (B := (T21.setTop (mkF m 10 #[rv th, rv ot, .unset] [(.ref ot)]))) (fun t k => XS.aloadN X21.here hx rfl (hb hby own_eqN_d9) rfl rfl k) ?_
  obtain ⟨T22, X22, e22, st22⟩ := castY X21 hx hZ hown w_52 e21 (Ins.of_exa E1 w_53) (g := (mkF m 10 #[rv th, rv ot, .unset] [(.ref ot)])) rfl rfl (hb hby own_eqN_d10)
  refine own_go (B := (T22.setTop (mkF m 13 #[rv th, rv ot, .unset] [(.ref ot)]))) st22 ?_
  refine own_go (B := (T22.setTop (mkF m 14 #[rv th, rv ot, rv ot] []))) (fun t k => XS.astoreN X22.here hx rfl (hb hby own_eqN_d13) rfl rfl (l' := #[rv th, rv ot, rv ot]) rfl k) ?_
  refine own_go (B := (T22.setTop (mkF m 15 #[rv th, rv ot, rv ot] [(.ref th)]))) (fun t k => XS.aloadN X22.here hx rfl (hb hby own_eqN_d14) rfl rfl k) ?_
  obtain ⟨T23, X23, e23, st23⟩ := getF X22 hx hZ hown (host := "") (Or.inl w_43) Via.refl e22 F1 (g := (mkF m 15 #[rv th, rv ot, rv ot] [(.ref th)])) rfl rfl (hb hby own_eqN_d15)
  refine own_go (B := (T23.setTop (mkF m 18 #[rv th, rv ot, rv ot] [(.ref bb)]))) st23 ?_
  refine own_go (B := (T23.setTop (mkF m 19 #[rv th, rv ot, rv ot] [(.ref ot), (.ref bb)]))) (fun t k => XS.aloadN X23.here hx rfl (hb hby own_eqN_d18) rfl rfl k) ?_
  obtain ⟨T24, X24, e24, st24⟩ := getF X23 hx hZ hown (host := "") (Or.inl w_43) Via.refl e23 F2 (g := (mkF m 19 #[rv th, rv ot, rv ot] [(.ref ot), (.ref bb)])) rfl rfl (hb hby own_eqN_d19)
  refine own_go (B := (T24.setTop (mkF m 22 #[rv th, rv ot, rv ot] [(.ref bb), (.ref bb)]))) st24 ?_
  have hc22 : bb = bb := rfl
  refine own_acmpAE X24 hx (hb hby own_eqN_d22) (pc' := 25) (by decide) (by decide) hc22 ?_
  refine own_go (B := (T24.setTop (mkF m 26 #[rv th, rv ot, rv ot] [(.ref th)]))) (fun t k => XS.aloadN X24.here hx rfl (hb hby own_eqN_d25) rfl rfl k) ?_
  obtain ⟨T25, X25, e25, st25⟩ := getF X24 hx hZ hown (host := "") (Or.inl w_45) Via.refl e24 F3 (g := (mkF m 26 #[rv th, rv ot, rv ot] [(.ref th)])) rfl rfl (hb hby own_eqN_d26)
  refine own_go (B := (T25.setTop (mkF m 29 #[rv th, rv ot, rv ot] [(.int m1)]))) st25 ?_
  refine own_go (B := (T25.setTop (mkF m 30 #[rv th, rv ot, rv ot] [(.ref ot), (.int m1)]))) (fun t k => XS.aloadN X25.here hx rfl (hb hby own_eqN_d29) rfl rfl k) ?_
  obtain ⟨T26, X26, e26, st26⟩ := getF X25 hx hZ hown (host := "") (Or.inl w_45) Via.refl e25 F4 (g := (mkF m 30 #[rv th, rv ot, rv ot] [(.ref ot), (.int m1)])) rfl rfl (hb hby own_eqN_d30)
  refine own_go (B := (T26.setTop (mkF m 33 #[rv th, rv ot, rv ot] [(.int m2), (.int m1)]))) st26 ?_
  have hc33 : ¬ m1 = m2 := hm
  refine own_icmpY X26 hx (hb hby own_eqN_d33) (pc' := 40) (by decide) (by decide) hc33 ?_
  refine own_go (B := (T26.setTop (mkF m 41 #[rv th, rv ot, rv ot] [(.int (0 : Int32))]))) (fun t k => own_iconst (v := (0 : Int32)) X26.here hx rfl (hb hby own_eqN_d40) (by decide) k) ?_
  exact own_retZ X26 hx hlk Bd.returns (hb hby own_eqN_d41) (by decide) (own_b rfl) (own_b rfl) (Q := (own_eqN_Q Z th ot bb m1 m2 h0 n0)) ⟨rfl, N0, e26⟩

theorem own_law_pn : plainName "com/example/parts_to_policy/partstopolicy/policy/PacketSetEqualsPinLaw" = true := by first | (simp [plainName, overriddenIn]; done) | decide +kernel
theorem own_law_ef (m : MethodId) (p0 : Int32) (p1 : Int32) (p2 : Int32) : entryFrame m #[(.int p0), (.int p1), (.int p2)] maxLocals = mkF m 0 #[iv p0, iv p1, iv p2, .unset, .unset, .unset, .unset, .unset, .unset, .unset, .unset, .unset, .unset, .unset] [] := by first | (simp [entryFrame, mkF, argsToLocals, Value.category, maxLocals]; done) | rfl
def own_law_Q (Z : State) (p0 : Int32) (p1 : Int32) (p2 : Int32) (ca : Addr) (h0 : Heap) (n0 : Nat) (v : Option Value) (h : Heap) (L : List Loc) : Prop := v = some (.int 1) ∧ Fr n0 L
set_option maxRecDepth 65536 in
set_option maxHeartbeats 40000000 in
theorem own_law (l : Launch) (Z : State) (a0 : Array Value) (hw : ∀ d ∈ tables_1, d.before a0 Z = true) (ws : List Jvm.Cond) (p0 : Int32) (p1 : Int32) (p2 : Int32) (ca : Addr) (h0 : Heap) (n0 : Nat) (Z0 : n0 ≤ h0.size) (hS1 : Sta Z h0 "java/lang/Integer$IntegerCache" "high" "I" (.int (127 : Int32))) (hS2 : Sta Z h0 "java/lang/Integer$IntegerCache" "cache" "[Ljava/lang/Integer;" (.ref ca)) (hC : own_Cache Z h0 ca) :
    MetFree l x (head1 (Jvm.Cond.code x code maxLocals ret :: ws) room_1) (fun a U => a = #[(.int p0), (.int p1), (.int p2)] ∧ Z.Warmed39 U.vm ∧ U.heap = h0) (fun _ _ _ _ _ => True) (fun _ U o U' => ∃ v L, o = .returned v ∧ (own_law_Q Z p0 p1 p2 ca h0 n0) v U'.heap L ∧ FrameEnd U o U' L 56 86144) := by
  refine MetFree.of_bodySF (plainFor_of_name own_law_pn) hisR ?_
  intro p e s m args below meth c s₁ Bd hml0 hP hK
  obtain ⟨rfl, hZ, hh⟩ := hP
  have hx := Bd.exec
  have hby := Bd.bytes
  have hml : c.maxLocals = 14 := hml0
  have hown : s.vm.findClass "com/example/parts_to_policy/partstopolicy/policy/PacketSetEqualsPinLaw" = some m.cls := findClass_of_methodNamed Bd.named
  have hnm := (name_of_methodNamed Bd.named Bd.method).1
  have hlk : meth.locks = false := Bd.notSynchronized
  have X0 : Stand p l e room_1 s m #[(.int p0), (.int p1), (.int p2)] below meth c s₁ [] 0 0 := Stand.of_body Bd
  have e0 : s₁.heap = h0 := by rw [← hh, Bd.state]; rfl
  have N0 := Fr.nil n0
  have w_0 := hw _ (List.mem_of_getElem? (l := tables_1) (i := 0) rfl)
  have w_1 := hw _ (List.mem_of_getElem? (l := tables_1) (i := 1) rfl)
  have w_2 := hw _ (List.mem_of_getElem? (l := tables_1) (i := 2) rfl)
  have w_3 := hw _ (List.mem_of_getElem? (l := tables_1) (i := 3) rfl)
  have w_4 := hw _ (List.mem_of_getElem? (l := tables_1) (i := 4) rfl)
  have w_5 := hw _ (List.mem_of_getElem? (l := tables_1) (i := 5) rfl)
  have w_11 := hw _ (List.mem_of_getElem? (l := tables_1) (i := 11) rfl)
  have w_13 := hw _ (List.mem_of_getElem? (l := tables_1) (i := 13) rfl)
  have w_15 := hw _ (List.mem_of_getElem? (l := tables_1) (i := 15) rfl)
  have w_17 := hw _ (List.mem_of_getElem? (l := tables_1) (i := 17) rfl)
  have w_19 := hw _ (List.mem_of_getElem? (l := tables_1) (i := 19) rfl)
  have w_29 := hw _ (List.mem_of_getElem? (l := tables_1) (i := 29) rfl)
  have w_31 := hw _ (List.mem_of_getElem? (l := tables_1) (i := 31) rfl)
  have w_33 := hw _ (List.mem_of_getElem? (l := tables_1) (i := 33) rfl)
  have w_35 := hw _ (List.mem_of_getElem? (l := tables_1) (i := 35) rfl)
  have w_36 := hw _ (List.mem_of_getElem? (l := tables_1) (i := 36) rfl)
  have w_37 := hw _ (List.mem_of_getElem? (l := tables_1) (i := 37) rfl)
  have w_38 := hw _ (List.mem_of_getElem? (l := tables_1) (i := 38) rfl)
  have w_39 := hw _ (List.mem_of_getElem? (l := tables_1) (i := 39) rfl)
  have w_40 := hw _ (List.mem_of_getElem? (l := tables_1) (i := 40) rfl)
  have w_41 := hw _ (List.mem_of_getElem? (l := tables_1) (i := 41) rfl)
  have w_44 := hw _ (List.mem_of_getElem? (l := tables_1) (i := 44) rfl)
  have w_46 := hw _ (List.mem_of_getElem? (l := tables_1) (i := 46) rfl)
  have w_47 := hw _ (List.mem_of_getElem? (l := tables_1) (i := 47) rfl)
  have w_48 := hw _ (List.mem_of_getElem? (l := tables_1) (i := 48) rfl)
  have w_49 := hw _ (List.mem_of_getElem? (l := tables_1) (i := 49) rfl)
  have w_50 := hw _ (List.mem_of_getElem? (l := tables_1) (i := 50) rfl)
  have w_51 := hw _ (List.mem_of_getElem? (l := tables_1) (i := 51) rfl)
  have w_56 := hw _ (List.mem_of_getElem? (l := tables_1) (i := 56) rfl)
  have w_57 := hw _ (List.mem_of_getElem? (l := tables_1) (i := 57) rfl)
  have w_58 := hw _ (List.mem_of_getElem? (l := tables_1) (i := 58) rfl)
  have w_59 := hw _ (List.mem_of_getElem? (l := tables_1) (i := 59) rfl)
  show own_G p.tables e below (fun o U' => ∃ v L, o = .returned v ∧ (own_law_Q Z p0 p1 p2 ca h0 n0) v U'.heap L ∧ FrameEnd s o U' L 56 86144) (s₁.setTop (entryFrame m #[(.int p0), (.int p1), (.int p2)] maxLocals))
  refine own_go (B := s₁.setTop (mkF m 0 #[iv p0, iv p1, iv p2, .unset, .unset, .unset, .unset, .unset, .unset, .unset, .unset, .unset, .unset, .unset] [])) (fun t k => castTop (own_law_ef m p0 p1 p2) k) ?_
  have K0 := Keep.refl h0 []
  obtain ⟨T1, h1, X1, e1, E1, A1, D1, U1, st1⟩ := newO X0 hx hZ hown w_0 w_1 w_2 e0 (g := (mkF m 0 #[iv p0, iv p1, iv p2, .unset, .unset, .unset, .unset, .unset, .unset, .unset, .unset, .unset, .unset, .unset] [])) rfl (hb hby at_0) (own_b rfl) (own_b rfl)
  obtain ⟨a1, ga1⟩ : ∃ z, z = h0.size := ⟨_, rfl⟩
  rw [← ga1] at A1 D1 U1 st1
  refine own_go (B := (T1.setTop (mkF m 3 #[iv p0, iv p1, iv p2, .unset, .unset, .unset, .unset, .unset, .unset, .unset, .unset, .unset, .unset, .unset] [(.ref a1)]))) st1 ?_
  have Z2 : n0 ≤ h1.size := Nat.le_trans Z0 E1.1
  have K3 := Keep.ext K0 E1
  have gn1 : n0 ≤ a1 := Nat.le_trans Z0 (Nat.le_of_eq ga1.symm)
  have F4 : Fld Z h1 a1 "com/example/parts_to_policy/partstopolicy/policy/Bdd" "variable" "[I" .null := D1 (Or.inl w_11) (ty := (.array .int)) (by decide)
  have F5 : Fld Z h1 a1 "com/example/parts_to_policy/partstopolicy/policy/Bdd" "low" "[I" .null := D1 (Or.inl w_13) (ty := (.array .int)) (by decide)
  have F6 : Fld Z h1 a1 "com/example/parts_to_policy/partstopolicy/policy/Bdd" "high" "[I" .null := D1 (Or.inl w_15) (ty := (.array .int)) (by decide)
  have F7 : Fld Z h1 a1 "com/example/parts_to_policy/partstopolicy/policy/Bdd" "size" "I" (.int (0 : Int32)) := D1 (Or.inl w_17) (ty := .int) (by decide)
  have F8 : Fld Z h1 a1 "com/example/parts_to_policy/partstopolicy/policy/Bdd" "unique" "[I" .null := D1 (Or.inl w_19) (ty := (.array .int)) (by decide)
  have F9 : Fld Z h1 a1 "com/example/parts_to_policy/partstopolicy/policy/Bdd" "cacheOp" "[I" .null := D1 (Or.inl w_29) (ty := (.array .int)) (by decide)
  have F10 : Fld Z h1 a1 "com/example/parts_to_policy/partstopolicy/policy/Bdd" "cacheLeft" "[I" .null := D1 (Or.inl w_31) (ty := (.array .int)) (by decide)
  have F11 : Fld Z h1 a1 "com/example/parts_to_policy/partstopolicy/policy/Bdd" "cacheRight" "[I" .null := D1 (Or.inl w_33) (ty := (.array .int)) (by decide)
  have F12 : Fld Z h1 a1 "com/example/parts_to_policy/partstopolicy/policy/Bdd" "cacheResult" "[I" .null := D1 (Or.inl w_35) (ty := (.array .int)) (by decide)
  refine own_go (B := (T1.setTop (mkF m 4 #[iv p0, iv p1, iv p2, .unset, .unset, .unset, .unset, .unset, .unset, .unset, .unset, .unset, .unset, .unset] [(.ref a1), (.ref a1)]))) (fun t k => XS.dup X1.here hx rfl (hb hby at_3) rfl rfl k) ?_
  refine own_go (B := (T1.setTop (mkF m 5 #[iv p0, iv p1, iv p2, .unset, .unset, .unset, .unset, .unset, .unset, .unset, .unset, .unset, .unset, .unset] [(.int (1 : Int32)), (.ref a1), (.ref a1)]))) (fun t k => own_iconst (v := (1 : Int32)) X1.here hx rfl (hb hby at_4) (by decide) k) ?_
  obtain ⟨_, _, ⟨T13, L13, k13, n13⟩, -, X13, ⟨Lc13, hQ13, l13, y13, z13⟩, st13⟩ := X1.specialBack hx (y := own_y5) rfl hown (mvT hZ w_3) (mvT hZ w_4) (mvT hZ w_5) (by decide) (backOf (W := 1) (own_bct l Z a0 hw [] a1 (1 : Int32) h1 n0 Z2 A1 gn1 F4 F5 F6 F7 F8 F9 F10 F11 F12) hZ w_5 w_2 (by decide) (by decide)) (g := (mkF m 5 #[iv p0, iv p1, iv p2, .unset, .unset, .unset, .unset, .unset, .unset, .unset, .unset, .unset, .unset, .unset] [(.int (1 : Int32)), (.ref a1), (.ref a1)])) rfl (by rw [hml]; rfl) (Steps.refl _) (a := a1) (argsL := [(.int (1 : Int32))]) (rest := [(.ref a1)]) (lenOf own_pd2 rfl) rfl (by show 2 * 0 + _ ≤ _; exact own_b rfl) (hb hby at_5) (fun _ _ => ⟨rfl, e1, (own_b rfl : 1 + 8 ≤ _), (own_b rfl : 9 + 21504 ≤ _)⟩)
  dsimp only [Pt.U, Pt.locs, Pt.cells, Pt.slots] at X13 l13 y13 z13 st13 hQ13
  obtain ⟨rfl, Nq13, K13, Ex13⟩ := hQ13
  obtain ⟨L13, X13, N13⟩ := own_absC (K := 9) (K' := 21513) X13 l13 y13 z13 N0 Nq13
  have F14 : n0 ≤ T13.heap.size := Nat.le_trans Z2 K13.1
  have F15 := Keep.trans K3 K13 (allS (Or.inr (Nat.le_trans K0.1 (Nat.le_of_eq ga1.symm))) all0)
  have F16 := Exa.keep A1 K13
  refine own_tr (B := (T13.setTop (mkF m 8 #[iv p0, iv p1, iv p2, .unset, .unset, .unset, .unset, .unset, .unset, .unset, .unset, .unset, .unset, .unset] [(.ref a1)]))) st13 ?_
  refine own_go (B := (T13.setTop (mkF m 9 #[iv p0, iv p1, iv p2, rv a1, .unset, .unset, .unset, .unset, .unset, .unset, .unset, .unset, .unset, .unset] []))) (fun t k => XS.astoreN X13.here hx rfl (hb hby at_8) rfl rfl (l' := #[iv p0, iv p1, iv p2, rv a1, .unset, .unset, .unset, .unset, .unset, .unset, .unset, .unset, .unset, .unset]) rfl k) ?_
  obtain ⟨T26, h26, X26, e26, E26, A26, D26, U26, st26⟩ := newO X13 hx hZ hown w_0 w_1 w_2 rfl (g := (mkF m 9 #[iv p0, iv p1, iv p2, rv a1, .unset, .unset, .unset, .unset, .unset, .unset, .unset, .unset, .unset, .unset] [])) rfl (hb hby at_9) (own_b rfl) (own_b rfl)
  obtain ⟨a26, ga26⟩ : ∃ z, z = T13.heap.size := ⟨_, rfl⟩
  rw [← ga26] at A26 D26 U26 st26
  refine own_go (B := (T26.setTop (mkF m 12 #[iv p0, iv p1, iv p2, rv a1, .unset, .unset, .unset, .unset, .unset, .unset, .unset, .unset, .unset, .unset] [(.ref a26)]))) st26 ?_
  have Z27 : n0 ≤ h26.size := Nat.le_trans F14 E26.1
  have K28 := Keep.ext F15 E26
  have F29 := Exa.ext E26 Ex13
  have gn26 : n0 ≤ a26 := Nat.le_trans F14 (Nat.le_of_eq ga26.symm)
  have ne26_a1 : a26 ≠ a1 := fun q => absurd (Ex13.lt) (by rw [← q, ga26]; exact Nat.lt_irrefl _)
  have F30 : Fld Z h26 a26 "com/example/parts_to_policy/partstopolicy/policy/Bdd" "variable" "[I" .null := D26 (Or.inl w_11) (ty := (.array .int)) (by decide)
  have F31 : Fld Z h26 a26 "com/example/parts_to_policy/partstopolicy/policy/Bdd" "low" "[I" .null := D26 (Or.inl w_13) (ty := (.array .int)) (by decide)
  have F32 : Fld Z h26 a26 "com/example/parts_to_policy/partstopolicy/policy/Bdd" "high" "[I" .null := D26 (Or.inl w_15) (ty := (.array .int)) (by decide)
  have F33 : Fld Z h26 a26 "com/example/parts_to_policy/partstopolicy/policy/Bdd" "size" "I" (.int (0 : Int32)) := D26 (Or.inl w_17) (ty := .int) (by decide)
  have F34 : Fld Z h26 a26 "com/example/parts_to_policy/partstopolicy/policy/Bdd" "unique" "[I" .null := D26 (Or.inl w_19) (ty := (.array .int)) (by decide)
  have F35 : Fld Z h26 a26 "com/example/parts_to_policy/partstopolicy/policy/Bdd" "cacheOp" "[I" .null := D26 (Or.inl w_29) (ty := (.array .int)) (by decide)
  have F36 : Fld Z h26 a26 "com/example/parts_to_policy/partstopolicy/policy/Bdd" "cacheLeft" "[I" .null := D26 (Or.inl w_31) (ty := (.array .int)) (by decide)
  have F37 : Fld Z h26 a26 "com/example/parts_to_policy/partstopolicy/policy/Bdd" "cacheRight" "[I" .null := D26 (Or.inl w_33) (ty := (.array .int)) (by decide)
  have F38 : Fld Z h26 a26 "com/example/parts_to_policy/partstopolicy/policy/Bdd" "cacheResult" "[I" .null := D26 (Or.inl w_35) (ty := (.array .int)) (by decide)
  refine own_go (B := (T26.setTop (mkF m 13 #[iv p0, iv p1, iv p2, rv a1, .unset, .unset, .unset, .unset, .unset, .unset, .unset, .unset, .unset, .unset] [(.ref a26), (.ref a26)]))) (fun t k => XS.dup X26.here hx rfl (hb hby at_12) rfl rfl k) ?_
  refine own_go (B := (T26.setTop (mkF m 14 #[iv p0, iv p1, iv p2, rv a1, .unset, .unset, .unset, .unset, .unset, .unset, .unset, .unset, .unset, .unset] [(.int (1 : Int32)), (.ref a26), (.ref a26)]))) (fun t k => own_iconst (v := (1 : Int32)) X26.here hx rfl (hb hby at_13) (by decide) k) ?_
  obtain ⟨_, _, ⟨T39, L39, k39, n39⟩, -, X39, ⟨Lc39, hQ39, l39, y39, z39⟩, st39⟩ := X26.specialBack hx (y := own_y5) rfl hown (mvT hZ w_3) (mvT hZ w_4) (mvT hZ w_5) (by decide) (backOf (W := 1) (own_bct l Z a0 hw [] a26 (1 : Int32) h26 n0 Z27 A26 gn26 F30 F31 F32 F33 F34 F35 F36 F37 F38) hZ w_5 w_2 (by decide) (by decide)) (g := (mkF m 14 #[iv p0, iv p1, iv p2, rv a1, .unset, .unset, .unset, .unset, .unset, .unset, .unset, .unset, .unset, .unset] [(.int (1 : Int32)), (.ref a26), (.ref a26)])) rfl (by rw [hml]; rfl) (Steps.refl _) (a := a26) (argsL := [(.int (1 : Int32))]) (rest := [(.ref a26)]) (lenOf own_pd2 rfl) rfl (by show 2 * 0 + _ ≤ _; exact own_b rfl) (hb hby at_14) (fun _ _ => ⟨rfl, e26, (own_b rfl : 10 + 8 ≤ _), (own_b rfl : 21522 + 21504 ≤ _)⟩)
  dsimp only [Pt.U, Pt.locs, Pt.cells, Pt.slots] at X39 l39 y39 z39 st39 hQ39
  obtain ⟨rfl, Nq39, K39, Ex39⟩ := hQ39
  obtain ⟨L39, X39, N39⟩ := own_absC (K := 18) (K' := 43026) X39 l39 y39 z39 N13 Nq39
  have F40 : n0 ≤ T39.heap.size := Nat.le_trans Z27 K39.1
  have F41 := Keep.trans K28 K39 (allS (Or.inr (Nat.le_trans F15.1 (Nat.le_of_eq ga26.symm))) all0)
  have F42 := Exa.keep F29 K39
  have F43 := Exa.keep A26 K39
  refine own_tr (B := (T39.setTop (mkF m 17 #[iv p0, iv p1, iv p2, rv a1, .unset, .unset, .unset, .unset, .unset, .unset, .unset, .unset, .unset, .unset] [(.ref a26)]))) st39 ?_
  refine own_go (B := (T39.setTop (mkF m 19 #[iv p0, iv p1, iv p2, rv a1, rv a26, .unset, .unset, .unset, .unset, .unset, .unset, .unset, .unset, .unset] []))) (fun t k => XS.astore X39.here hx rfl (hb hby at_17) rfl rfl (l' := #[iv p0, iv p1, iv p2, rv a1, rv a26, .unset, .unset, .unset, .unset, .unset, .unset, .unset, .unset, .unset]) rfl k) ?_
  refine own_go (B := (T39.setTop (mkF m 20 #[iv p0, iv p1, iv p2, rv a1, rv a26, .unset, .unset, .unset, .unset, .unset, .unset, .unset, .unset, .unset] [(.int p2)]))) (fun t k => XS.iloadN X39.here hx rfl (hb hby at_19) rfl k) ?_
  refine own_go (B := (T39.setTop (mkF m 21 #[iv p0, iv p1, iv p2, rv a1, rv a26, .unset, .unset, .unset, .unset, .unset, .unset, .unset, .unset, .unset] [(.int (1 : Int32)), (.int p2)]))) (fun t k => own_iconst (v := (1 : Int32)) X39.here hx rfl (hb hby at_20) (by decide) k) ?_
  refine own_go (B := (T39.setTop (mkF m 22 #[iv p0, iv p1, iv p2, rv a1, rv a26, .unset, .unset, .unset, .unset, .unset, .unset, .unset, .unset, .unset] [(.int (p2 &&& (1 : Int32)))]))) (fun t k => XS.iand (x := p2) (y := (1 : Int32)) X39.here hx rfl (hb hby at_21) rfl k) ?_
  refine own_if X39 hx (hb hby at_22) (pc' := 29) (pn := 25) (by decide) (by decide) rfl (fun (hc22 : (p2 &&& (1 : Int32)) = (0 : Int32)) => ?_) (fun (hc22 : ¬ (p2 &&& (1 : Int32)) = (0 : Int32)) => ?_)
  · refine own_go (B := (T39.setTop (mkF m 30 #[iv p0, iv p1, iv p2, rv a1, rv a26, .unset, .unset, .unset, .unset, .unset, .unset, .unset, .unset, .unset] [(.int (0 : Int32))]))) (fun t k => own_iconst (v := (0 : Int32)) X39.here hx rfl (hb hby at_29) (by decide) k) ?_
    refine own_go (B := (T39.setTop (mkF m 32 #[iv p0, iv p1, iv p2, rv a1, rv a26, iv (0 : Int32), .unset, .unset, .unset, .unset, .unset, .unset, .unset, .unset] []))) (fun t k => XS.istore X39.here hx rfl (hb hby at_30) rfl (l' := #[iv p0, iv p1, iv p2, rv a1, rv a26, iv (0 : Int32), .unset, .unset, .unset, .unset, .unset, .unset, .unset, .unset]) rfl k) ?_
    refine own_go (B := (T39.setTop (mkF m 33 #[iv p0, iv p1, iv p2, rv a1, rv a26, iv (0 : Int32), .unset, .unset, .unset, .unset, .unset, .unset, .unset, .unset] [(.int p2)]))) (fun t k => XS.iloadN X39.here hx rfl (hb hby at_32) rfl k) ?_
    refine own_go (B := (T39.setTop (mkF m 34 #[iv p0, iv p1, iv p2, rv a1, rv a26, iv (0 : Int32), .unset, .unset, .unset, .unset, .unset, .unset, .unset, .unset] [(.int (2 : Int32)), (.int p2)]))) (fun t k => own_iconst (v := (2 : Int32)) X39.here hx rfl (hb hby at_33) (by decide) k) ?_
    refine own_go (B := (T39.setTop (mkF m 35 #[iv p0, iv p1, iv p2, rv a1, rv a26, iv (0 : Int32), .unset, .unset, .unset, .unset, .unset, .unset, .unset, .unset] [(.int (p2 &&& (2 : Int32)))]))) (fun t k => XS.iand (x := p2) (y := (2 : Int32)) X39.here hx rfl (hb hby at_34) rfl k) ?_
    refine own_if X39 hx (hb hby at_35) (pc' := 42) (pn := 38) (by decide) (by decide) rfl (fun (hc35 : (p2 &&& (2 : Int32)) = (0 : Int32)) => ?_) (fun (hc35 : ¬ (p2 &&& (2 : Int32)) = (0 : Int32)) => ?_)
    · refine own_go (B := (T39.setTop (mkF m 43 #[iv p0, iv p1, iv p2, rv a1, rv a26, iv (0 : Int32), .unset, .unset, .unset, .unset, .unset, .unset, .unset, .unset] [(.int (0 : Int32))]))) (fun t k => own_iconst (v := (0 : Int32)) X39.here hx rfl (hb hby at_42) (by decide) k) ?_
      refine own_go (B := (T39.setTop (mkF m 45 #[iv p0, iv p1, iv p2, rv a1, rv a26, iv (0 : Int32), iv (0 : Int32), .unset, .unset, .unset, .unset, .unset, .unset, .unset] []))) (fun t k => XS.istore X39.here hx rfl (hb hby at_43) rfl (l' := #[iv p0, iv p1, iv p2, rv a1, rv a26, iv (0 : Int32), iv (0 : Int32), .unset, .unset, .unset, .unset, .unset, .unset, .unset]) rfl k) ?_
      refine own_go (B := (T39.setTop (mkF m 46 #[iv p0, iv p1, iv p2, rv a1, rv a26, iv (0 : Int32), iv (0 : Int32), .unset, .unset, .unset, .unset, .unset, .unset, .unset] [(.int p2)]))) (fun t k => XS.iloadN X39.here hx rfl (hb hby at_45) rfl k) ?_
      refine own_go (B := (T39.setTop (mkF m 47 #[iv p0, iv p1, iv p2, rv a1, rv a26, iv (0 : Int32), iv (0 : Int32), .unset, .unset, .unset, .unset, .unset, .unset, .unset] [(.int (2 : Int32)), (.int p2)]))) (fun t k => own_iconst (v := (2 : Int32)) X39.here hx rfl (hb hby at_46) (by decide) k) ?_
      refine own_go (B := (T39.setTop (mkF m 48 #[iv p0, iv p1, iv p2, rv a1, rv a26, iv (0 : Int32), iv (0 : Int32), .unset, .unset, .unset, .unset, .unset, .unset, .unset] [(.int ((p2.toUInt32 >>> ((2 : Int32) &&& 31).toUInt32).toInt32))]))) (fun t k => XS.iushr (x := p2) (y := (2 : Int32)) X39.here hx rfl (hb hby at_47) rfl k) ?_
      refine own_go (B := (T39.setTop (mkF m 49 #[iv p0, iv p1, iv p2, rv a1, rv a26, iv (0 : Int32), iv (0 : Int32), .unset, .unset, .unset, .unset, .unset, .unset, .unset] [(.int (3 : Int32)), (.int ((p2.toUInt32 >>> ((2 : Int32) &&& 31).toUInt32).toInt32))]))) (fun t k => own_iconst (v := (3 : Int32)) X39.here hx rfl (hb hby at_48) (by decide) k) ?_
      refine own_go (B := (T39.setTop (mkF m 50 #[iv p0, iv p1, iv p2, rv a1, rv a26, iv (0 : Int32), iv (0 : Int32), .unset, .unset, .unset, .unset, .unset, .unset, .unset] [(.int (((p2.toUInt32 >>> ((2 : Int32) &&& 31).toUInt32).toInt32) &&& (3 : Int32)))]))) (fun t k => XS.iand (x := ((p2.toUInt32 >>> ((2 : Int32) &&& 31).toUInt32).toInt32)) (y := (3 : Int32)) X39.here hx rfl (hb hby at_49) rfl k) ?_
      obtain ⟨z50, hz50⟩ : ∃ z : Int32, z = (((p2.toUInt32 >>> ((2 : Int32) &&& 31).toUInt32).toInt32) &&& (3 : Int32)) := ⟨_, rfl⟩
      rw [← hz50]
      refine own_go (B := (T39.setTop (mkF m 52 #[iv p0, iv p1, iv p2, rv a1, rv a26, iv (0 : Int32), iv (0 : Int32), iv z50, .unset, .unset, .unset, .unset, .unset, .unset] []))) (fun t k => XS.istore X39.here hx rfl (hb hby at_50) rfl (l' := #[iv p0, iv p1, iv p2, rv a1, rv a26, iv (0 : Int32), iv (0 : Int32), iv z50, .unset, .unset, .unset, .unset, .unset, .unset]) rfl k) ?_
      rcases own_c4 hz50 with rfl | rfl | rfl | rfl
      · refine own_go (B := (T39.setTop (mkF m 54 #[iv p0, iv p1, iv p2, rv a1, rv a26, iv (0 : Int32), iv (0 : Int32), iv (0 : Int32), .unset, .unset, .unset, .unset, .unset, .unset] [(.int (0 : Int32))]))) (fun t k => XS.iload X39.here hx rfl (hb hby at_52) rfl k) ?_
        have hc54 : (0 : Int32) = (0 : Int32) := (by decide)
        refine own_ifY X39 hx (hb hby at_54) (pc' := 61) (by decide) (by decide) hc54 ?_
        refine own_go (B := (T39.setTop (mkF m 62 #[iv p0, iv p1, iv p2, rv a1, rv a26, iv (0 : Int32), iv (0 : Int32), iv (0 : Int32), .unset, .unset, .unset, .unset, .unset, .unset] [(.int p1)]))) (fun t k => XS.iloadN X39.here hx rfl (hb hby at_61) rfl k) ?_
        refine own_go (B := (T39.setTop (mkF m 64 #[iv p0, iv p1, iv p2, rv a1, rv a26, iv (0 : Int32), iv (0 : Int32), iv (0 : Int32), iv p1, .unset, .unset, .unset, .unset, .unset] []))) (fun t k => XS.istore X39.here hx rfl (hb hby at_62) rfl (l' := #[iv p0, iv p1, iv p2, rv a1, rv a26, iv (0 : Int32), iv (0 : Int32), iv (0 : Int32), iv p1, .unset, .unset, .unset, .unset, .unset]) rfl k) ?_
        obtain ⟨T53, h53, X53, e53, E53, A53, D53, U53, st53⟩ := newO X39 hx hZ hown w_36 w_37 w_38 rfl (g := (mkF m 64 #[iv p0, iv p1, iv p2, rv a1, rv a26, iv (0 : Int32), iv (0 : Int32), iv (0 : Int32), iv p1, .unset, .unset, .unset, .unset, .unset] [])) rfl (hb hby at_64) (own_b rfl) (own_b rfl)
        obtain ⟨a53, ga53⟩ : ∃ z, z = T39.heap.size := ⟨_, rfl⟩
        rw [← ga53] at A53 D53 U53 st53
        refine own_go (B := (T53.setTop (mkF m 67 #[iv p0, iv p1, iv p2, rv a1, rv a26, iv (0 : Int32), iv (0 : Int32), iv (0 : Int32), iv p1, .unset, .unset, .unset, .unset, .unset] [(.ref a53)]))) st53 ?_
        have Z54 : n0 ≤ h53.size := Nat.le_trans F40 E53.1
        have K55 := Keep.ext F41 E53
        have F56 := Exa.ext E53 F42
        have F57 := Exa.ext E53 Ex39
        have gn53 : n0 ≤ a53 := Nat.le_trans F40 (Nat.le_of_eq ga53.symm)
        have ne53_a1 : a53 ≠ a1 := fun q => absurd (F42.lt) (by rw [← q, ga53]; exact Nat.lt_irrefl _)
        have ne53_a26 : a53 ≠ a26 := fun q => absurd (Ex39.lt) (by rw [← q, ga53]; exact Nat.lt_irrefl _)
        have F58 : Fld Z h53 a53 "com/example/parts_to_policy/partstopolicy/policy/PacketSet" "bdd" "Lcom/example/parts_to_policy/partstopolicy/policy/Bdd;" .null := D53 (Or.inr w_44) (ty := (.object "com/example/parts_to_policy/partstopolicy/policy/Bdd")) (by decide)
        have F59 : Fld Z h53 a53 "com/example/parts_to_policy/partstopolicy/policy/PacketSet" "node" "I" (.int (0 : Int32)) := D53 (Or.inr w_46) (ty := .int) (by decide)
        refine own_go (B := (T53.setTop (mkF m 68 #[iv p0, iv p1, iv p2, rv a1, rv a26, iv (0 : Int32), iv (0 : Int32), iv (0 : Int32), iv p1, .unset, .unset, .unset, .unset, .unset] [(.ref a53), (.ref a53)]))) (fun t k => XS.dup X53.here hx rfl (hb hby at_67) rfl rfl k) ?_
        refine own_go (B := (T53.setTop (mkF m 69 #[iv p0, iv p1, iv p2, rv a1, rv a26, iv (0 : Int32), iv (0 : Int32), iv (0 : Int32), iv p1, .unset, .unset, .unset, .unset, .unset] [(.ref a1), (.ref a53), (.ref a53)]))) (fun t k => XS.aloadN X53.here hx rfl (hb hby at_68) rfl rfl k) ?_
        refine own_go (B := (T53.setTop (mkF m 70 #[iv p0, iv p1, iv p2, rv a1, rv a26, iv (0 : Int32), iv (0 : Int32), iv (0 : Int32), iv p1, .unset, .unset, .unset, .unset, .unset] [(.int p0), (.ref a1), (.ref a53), (.ref a53)]))) (fun t k => XS.iloadN X53.here hx rfl (hb hby at_69) rfl k) ?_
        obtain ⟨_, _, ⟨T60, L60, k60, n60⟩, -, X60, ⟨Lc60, hQ60, l60, y60, z60⟩, st60⟩ := X53.specialBack hx (y := own_y6) rfl hown (mvT hZ w_39) (mvT hZ w_40) (mvT hZ w_41) (by decide) (backOf (W := 1) (own_pct l Z a0 hw [] a53 a1 p0 h53 n0 Z54 A53 gn53 F58 F59) hZ w_41 w_38 (by decide) (by decide)) (g := (mkF m 70 #[iv p0, iv p1, iv p2, rv a1, rv a26, iv (0 : Int32), iv (0 : Int32), iv (0 : Int32), iv p1, .unset, .unset, .unset, .unset, .unset] [(.int p0), (.ref a1), (.ref a53), (.ref a53)])) rfl (by rw [hml]; rfl) (Steps.refl _) (a := a53) (argsL := [(.ref a1), (.int p0)]) (rest := [(.ref a53)]) (lenOf own_pd4 rfl) rfl (by show 2 * 0 + _ ≤ _; exact own_b rfl) (hb hby at_70) (fun _ _ => ⟨rfl, e53, (own_b rfl : 19 + 0 ≤ _), (own_b rfl : 43028 + 0 ≤ _)⟩)
        dsimp only [Pt.U, Pt.locs, Pt.cells, Pt.slots] at X60 l60 y60 z60 st60 hQ60
        obtain ⟨rfl, Nq60, K60, Ex60, g0_60, g1_60⟩ := hQ60
        obtain ⟨L60, X60, N60⟩ := own_absC (K := 19) (K' := 43028) X60 l60 y60 z60 N39 Nq60
        have F61 : n0 ≤ T60.heap.size := Nat.le_trans Z54 K60.1
        have F62 := Keep.trans K55 K60 (allS (Or.inr (Nat.le_trans F41.1 (Nat.le_of_eq ga53.symm))) all0)
        have F63 := Exa.keep F56 K60
        have F64 := Exa.keep F57 K60
        have F65 := Exa.keep A53 K60
        refine own_tr (B := (T60.setTop (mkF m 73 #[iv p0, iv p1, iv p2, rv a1, rv a26, iv (0 : Int32), iv (0 : Int32), iv (0 : Int32), iv p1, .unset, .unset, .unset, .unset, .unset] [(.ref a53)]))) st60 ?_
        refine own_go (B := (T60.setTop (mkF m 75 #[iv p0, iv p1, iv p2, rv a1, rv a26, iv (0 : Int32), iv (0 : Int32), iv (0 : Int32), iv p1, rv a53, .unset, .unset, .unset, .unset] []))) (fun t k => XS.astore X60.here hx rfl (hb hby at_73) rfl rfl (l' := #[iv p0, iv p1, iv p2, rv a1, rv a26, iv (0 : Int32), iv (0 : Int32), iv (0 : Int32), iv p1, rv a53, .unset, .unset, .unset, .unset]) rfl k) ?_
        obtain ⟨T68, h68, X68, e68, E68, A68, D68, U68, st68⟩ := newO X60 hx hZ hown w_36 w_37 w_38 rfl (g := (mkF m 75 #[iv p0, iv p1, iv p2, rv a1, rv a26, iv (0 : Int32), iv (0 : Int32), iv (0 : Int32), iv p1, rv a53, .unset, .unset, .unset, .unset] [])) rfl (hb hby at_75) (own_b rfl) (own_b rfl)
        obtain ⟨a68, ga68⟩ : ∃ z, z = T60.heap.size := ⟨_, rfl⟩
        rw [← ga68] at A68 D68 U68 st68
        refine own_go (B := (T68.setTop (mkF m 78 #[iv p0, iv p1, iv p2, rv a1, rv a26, iv (0 : Int32), iv (0 : Int32), iv (0 : Int32), iv p1, rv a53, .unset, .unset, .unset, .unset] [(.ref a68)]))) st68 ?_
        have Z69 : n0 ≤ h68.size := Nat.le_trans F61 E68.1
        have K70 := Keep.ext F62 E68
        have F71 := Exa.ext E68 F63
        have F72 := Exa.ext E68 F64
        have F73 := Exa.ext E68 Ex60
        have F74 := Fld.ext E68 g0_60
        have F75 := Fld.ext E68 g1_60
        have gn68 : n0 ≤ a68 := Nat.le_trans F61 (Nat.le_of_eq ga68.symm)
        have ne68_a1 : a68 ≠ a1 := fun q => absurd (F63.lt) (by rw [← q, ga68]; exact Nat.lt_irrefl _)
        have ne68_a26 : a68 ≠ a26 := fun q => absurd (F64.lt) (by rw [← q, ga68]; exact Nat.lt_irrefl _)
        have ne68_a53 : a68 ≠ a53 := fun q => absurd (Ex60.lt) (by rw [← q, ga68]; exact Nat.lt_irrefl _)
        have F76 : Fld Z h68 a68 "com/example/parts_to_policy/partstopolicy/policy/PacketSet" "bdd" "Lcom/example/parts_to_policy/partstopolicy/policy/Bdd;" .null := D68 (Or.inr w_44) (ty := (.object "com/example/parts_to_policy/partstopolicy/policy/Bdd")) (by decide)
        have F77 : Fld Z h68 a68 "com/example/parts_to_policy/partstopolicy/policy/PacketSet" "node" "I" (.int (0 : Int32)) := D68 (Or.inr w_46) (ty := .int) (by decide)
        refine own_go (B := (T68.setTop (mkF m 79 #[iv p0, iv p1, iv p2, rv a1, rv a26, iv (0 : Int32), iv (0 : Int32), iv (0 : Int32), iv p1, rv a53, .unset, .unset, .unset, .unset] [(.ref a68), (.ref a68)]))) (fun t k => XS.dup X68.here hx rfl (hb hby at_78) rfl rfl k) ?_
        refine own_go (B := (T68.setTop (mkF m 81 #[iv p0, iv p1, iv p2, rv a1, rv a26, iv (0 : Int32), iv (0 : Int32), iv (0 : Int32), iv p1, rv a53, .unset, .unset, .unset, .unset] [(.int (0 : Int32)), (.ref a68), (.ref a68)]))) (fun t k => XS.iload X68.here hx rfl (hb hby at_79) rfl k) ?_
        have hc81 : (0 : Int32) = (0 : Int32) := (by decide)
        refine own_ifY X68 hx (hb hby at_81) (pc' := 88) (by decide) (by decide) hc81 ?_
        refine own_go (B := (T68.setTop (mkF m 90 #[iv p0, iv p1, iv p2, rv a1, rv a26, iv (0 : Int32), iv (0 : Int32), iv (0 : Int32), iv p1, rv a53, .unset, .unset, .unset, .unset] [(.ref a26), (.ref a68), (.ref a68)]))) (fun t k => XS.aload X68.here hx rfl (hb hby at_88) rfl rfl k) ?_
        refine own_go (B := (T68.setTop (mkF m 92 #[iv p0, iv p1, iv p2, rv a1, rv a26, iv (0 : Int32), iv (0 : Int32), iv (0 : Int32), iv p1, rv a53, .unset, .unset, .unset, .unset] [(.int p1), (.ref a26), (.ref a68), (.ref a68)]))) (fun t k => XS.iload X68.here hx rfl (hb hby at_90) rfl k) ?_
        obtain ⟨_, _, ⟨T78, L78, k78, n78⟩, -, X78, ⟨Lc78, hQ78, l78, y78, z78⟩, st78⟩ := X68.specialBack hx (y := own_y6) rfl hown (mvT hZ w_39) (mvT hZ w_40) (mvT hZ w_41) (by decide) (backOf (W := 1) (own_pct l Z a0 hw [] a68 a26 p1 h68 n0 Z69 A68 gn68 F76 F77) hZ w_41 w_38 (by decide) (by decide)) (g := (mkF m 92 #[iv p0, iv p1, iv p2, rv a1, rv a26, iv (0 : Int32), iv (0 : Int32), iv (0 : Int32), iv p1, rv a53, .unset, .unset, .unset, .unset] [(.int p1), (.ref a26), (.ref a68), (.ref a68)])) rfl (by rw [hml]; rfl) (Steps.refl _) (a := a68) (argsL := [(.ref a26), (.int p1)]) (rest := [(.ref a68)]) (lenOf own_pd4 rfl) rfl (by show 2 * 0 + _ ≤ _; exact own_b rfl) (hb hby at_92) (fun _ _ => ⟨rfl, e68, (own_b rfl : 20 + 0 ≤ _), (own_b rfl : 43030 + 0 ≤ _)⟩)
        dsimp only [Pt.U, Pt.locs, Pt.cells, Pt.slots] at X78 l78 y78 z78 st78 hQ78
        obtain ⟨rfl, Nq78, K78, Ex78, g0_78, g1_78⟩ := hQ78
        obtain ⟨L78, X78, N78⟩ := own_absC (K := 20) (K' := 43030) X78 l78 y78 z78 N60 Nq78
        have F79 : n0 ≤ T78.heap.size := Nat.le_trans Z69 K78.1
        have F80 := Keep.trans K70 K78 (allS (Or.inr (Nat.le_trans F62.1 (Nat.le_of_eq ga68.symm))) all0)
        have F81 := Exa.keep F71 K78
        have F82 := Exa.keep F72 K78
        have F83 := Exa.keep F73 K78
        have F84 := Fld.keep F74 K78 (ninS (Ne.symm ne68_a53) nin0)
        have F85 := Fld.keep F75 K78 (ninS (Ne.symm ne68_a53) nin0)
        have F86 := Exa.keep A68 K78
        refine own_tr (B := (T78.setTop (mkF m 95 #[iv p0, iv p1, iv p2, rv a1, rv a26, iv (0 : Int32), iv (0 : Int32), iv (0 : Int32), iv p1, rv a53, .unset, .unset, .unset, .unset] [(.ref a68)]))) st78 ?_
        refine own_go (B := (T78.setTop (mkF m 97 #[iv p0, iv p1, iv p2, rv a1, rv a26, iv (0 : Int32), iv (0 : Int32), iv (0 : Int32), iv p1, rv a53, rv a68, .unset, .unset, .unset] []))) (fun t k => XS.astore X78.here hx rfl (hb hby at_95) rfl rfl (l' := #[iv p0, iv p1, iv p2, rv a1, rv a26, iv (0 : Int32), iv (0 : Int32), iv (0 : Int32), iv p1, rv a53, rv a68, .unset, .unset, .unset]) rfl k) ?_
        refine own_go (B := (T78.setTop (mkF m 99 #[iv p0, iv p1, iv p2, rv a1, rv a26, iv (0 : Int32), iv (0 : Int32), iv (0 : Int32), iv p1, rv a53, rv a68, .unset, .unset, .unset] [(.int (0 : Int32))]))) (fun t k => XS.iload X78.here hx rfl (hb hby at_97) rfl k) ?_
        have hc99 : (0 : Int32) = (0 : Int32) := (by decide)
        refine own_ifN X78 hx (hb hby at_99) (pn := 102) rfl hc99 ?_
        refine own_go (B := (T78.setTop (mkF m 104 #[iv p0, iv p1, iv p2, rv a1, rv a26, iv (0 : Int32), iv (0 : Int32), iv (0 : Int32), iv p1, rv a53, rv a68, .unset, .unset, .unset] [(.ref a68)]))) (fun t k => XS.aload X78.here hx rfl (hb hby at_102) rfl rfl k) ?_
        refine own_go (B := (T78.setTop (mkF m 106 #[iv p0, iv p1, iv p2, rv a1, rv a26, iv (0 : Int32), iv (0 : Int32), iv (0 : Int32), iv p1, rv a53, rv a68, rv a68, .unset, .unset] []))) (fun t k => XS.astore X78.here hx rfl (hb hby at_104) rfl rfl (l' := #[iv p0, iv p1, iv p2, rv a1, rv a26, iv (0 : Int32), iv (0 : Int32), iv (0 : Int32), iv p1, rv a53, rv a68, rv a68, .unset, .unset]) rfl k) ?_
        refine own_go (B := (T78.setTop (mkF m 139 #[iv p0, iv p1, iv p2, rv a1, rv a26, iv (0 : Int32), iv (0 : Int32), iv (0 : Int32), iv p1, rv a53, rv a68, rv a68, .unset, .unset] []))) (fun t k => XS.goto X78.here hx rfl (pc0 := 106) (pc' := 139) rfl (hb hby at_106) (by decide) (by decide) k) ?_
        refine own_go (B := (T78.setTop (mkF m 141 #[iv p0, iv p1, iv p2, rv a1, rv a26, iv (0 : Int32), iv (0 : Int32), iv (0 : Int32), iv p1, rv a53, rv a68, rv a68, .unset, .unset] [(.int (0 : Int32))]))) (fun t k => XS.iload X78.here hx rfl (hb hby at_139) rfl k) ?_
        have hc141 : (0 : Int32) = (0 : Int32) := (by decide)
        refine own_ifN X78 hx (hb hby at_141) (pn := 144) rfl hc141 ?_
        refine own_go (B := (T78.setTop (mkF m 146 #[iv p0, iv p1, iv p2, rv a1, rv a26, iv (0 : Int32), iv (0 : Int32), iv (0 : Int32), iv p1, rv a53, rv a68, rv a68, .unset, .unset] [(.int (0 : Int32))]))) (fun t k => XS.iload X78.here hx rfl (hb hby at_144) rfl k) ?_
        have hc146 : (0 : Int32) = (0 : Int32) := (by decide)
        refine own_ifY X78 hx (hb hby at_146) (pc' := 159) (by decide) (by decide) hc146 ?_
        refine own_go (B := (T78.setTop (mkF m 160 #[iv p0, iv p1, iv p2, rv a1, rv a26, iv (0 : Int32), iv (0 : Int32), iv (0 : Int32), iv p1, rv a53, rv a68, rv a68, .unset, .unset] [(.int (0 : Int32))]))) (fun t k => own_iconst (v := (0 : Int32)) X78.here hx rfl (hb hby at_159) (by decide) k) ?_
        refine own_go (B := (T78.setTop (mkF m 162 #[iv p0, iv p1, iv p2, rv a1, rv a26, iv (0 : Int32), iv (0 : Int32), iv (0 : Int32), iv p1, rv a53, rv a68, rv a68, iv (0 : Int32), .unset] []))) (fun t k => XS.istore X78.here hx rfl (hb hby at_160) rfl (l' := #[iv p0, iv p1, iv p2, rv a1, rv a26, iv (0 : Int32), iv (0 : Int32), iv (0 : Int32), iv p1, rv a53, rv a68, rv a68, iv (0 : Int32), .unset]) rfl k) ?_
        refine own_go (B := (T78.setTop (mkF m 164 #[iv p0, iv p1, iv p2, rv a1, rv a26, iv (0 : Int32), iv (0 : Int32), iv (0 : Int32), iv p1, rv a53, rv a68, rv a68, iv (0 : Int32), .unset] [(.ref a53)]))) (fun t k => XS.aload X78.here hx rfl (hb hby at_162) rfl rfl k) ?_
        refine own_go (B := (T78.setTop (mkF m 166 #[iv p0, iv p1, iv p2, rv a1, rv a26, iv (0 : Int32), iv (0 : Int32), iv (0 : Int32), iv p1, rv a53, rv a68, rv a68, iv (0 : Int32), .unset] [(.ref a68), (.ref a53)]))) (fun t k => XS.aload X78.here hx rfl (hb hby at_164) rfl rfl k) ?_
        obtain ⟨cq89, kq89, qa89, qb89, qc89⟩ := isOf hZ rfl F83
        obtain ⟨_, _, ⟨T89, L89, k89, n89⟩, -, X89, ⟨Lc89, hQ89, l89, y89, z89⟩, st89⟩ := X78.virtualBack hx (y := own_y7) (z := own_y7) hown (mvT hZ w_47) (mvT hZ w_48) (notFace_of_selects (args := #[]) (mvT hZ w_50)) (mvT hZ w_50) (mvT hZ w_49) (by decide) (backOf (W := 0) (own_eqB l Z a0 hw [] a53 a68 a1 a26 p0 p1 T78.heap n0 Ex78 F84 g0_78 F85 g1_78 ((Ne.symm ne26_a1))) hZ w_51 w_38 (by decide) (by decide)) qa89 qc89 (g := (mkF m 166 #[iv p0, iv p1, iv p2, rv a1, rv a26, iv (0 : Int32), iv (0 : Int32), iv (0 : Int32), iv p1, rv a53, rv a68, rv a68, iv (0 : Int32), .unset] [(.ref a68), (.ref a53)])) rfl (by rw [hml]; rfl) (Steps.refl _) (argsL := [(.ref a68)]) (rest := []) (lenOf own_pd5 rfl) rfl (by show 2 * 0 + _ ≤ _; exact own_b rfl) (hb hby at_166) (fun _ _ => ⟨rfl, rfl, (own_b rfl : 20 + 0 ≤ _), (own_b rfl : 43030 + 0 ≤ _)⟩)
        dsimp only [Pt.U, Pt.locs, Pt.cells, Pt.slots] at X89 l89 y89 z89 st89 hQ89
        obtain ⟨rfl, Nq89, eq89⟩ := hQ89
        obtain ⟨L89, X89, N89⟩ := own_absC (K := 20) (K' := 43030) X89 l89 y89 z89 N78 Nq89
        have e89 : T89.heap = T78.heap := eq89
        refine own_tr (B := (T89.setTop (mkF m 169 #[iv p0, iv p1, iv p2, rv a1, rv a26, iv (0 : Int32), iv (0 : Int32), iv (0 : Int32), iv p1, rv a53, rv a68, rv a68, iv (0 : Int32), .unset] [(.int (0 : Int32))]))) st89 ?_
        refine own_go (B := (T89.setTop (mkF m 171 #[iv p0, iv p1, iv p2, rv a1, rv a26, iv (0 : Int32), iv (0 : Int32), iv (0 : Int32), iv p1, rv a53, rv a68, rv a68, iv (0 : Int32), iv (0 : Int32)] []))) (fun t k => XS.istore X89.here hx rfl (hb hby at_169) rfl (l' := #[iv p0, iv p1, iv p2, rv a1, rv a26, iv (0 : Int32), iv (0 : Int32), iv (0 : Int32), iv p1, rv a53, rv a68, rv a68, iv (0 : Int32), iv (0 : Int32)]) rfl k) ?_
        refine own_go (B := (T89.setTop (mkF m 173 #[iv p0, iv p1, iv p2, rv a1, rv a26, iv (0 : Int32), iv (0 : Int32), iv (0 : Int32), iv p1, rv a53, rv a68, rv a68, iv (0 : Int32), iv (0 : Int32)] [(.int (0 : Int32))]))) (fun t k => XS.iload X89.here hx rfl (hb hby at_171) rfl k) ?_
        refine own_go (B := (T89.setTop (mkF m 175 #[iv p0, iv p1, iv p2, rv a1, rv a26, iv (0 : Int32), iv (0 : Int32), iv (0 : Int32), iv p1, rv a53, rv a68, rv a68, iv (0 : Int32), iv (0 : Int32)] [(.int (0 : Int32)), (.int (0 : Int32))]))) (fun t k => XS.iload X89.here hx rfl (hb hby at_173) rfl k) ?_
        have hc175 : (0 : Int32) = (0 : Int32) := (by decide)
        refine own_icmpY X89 hx (hb hby at_175) (pc' := 180) (by decide) (by decide) hc175 ?_
        refine own_go (B := (T89.setTop (mkF m 182 #[iv p0, iv p1, iv p2, rv a1, rv a26, iv (0 : Int32), iv (0 : Int32), iv (0 : Int32), iv p1, rv a53, rv a68, rv a68, iv (0 : Int32), iv (0 : Int32)] [(.ref a53)]))) (fun t k => XS.aload X89.here hx rfl (hb hby at_180) rfl rfl k) ?_
        refine own_go (B := (T89.setTop (mkF m 184 #[iv p0, iv p1, iv p2, rv a1, rv a26, iv (0 : Int32), iv (0 : Int32), iv (0 : Int32), iv p1, rv a53, rv a68, rv a68, iv (0 : Int32), iv (0 : Int32)] [(.ref a53), (.ref a53)]))) (fun t k => XS.aload X89.here hx rfl (hb hby at_182) rfl rfl k) ?_
        obtain ⟨cq90, kq90, qa90, qb90, qc90⟩ := isOf hZ e89 F83
        obtain ⟨_, _, ⟨T90, L90, k90, n90⟩, -, X90, ⟨Lc90, hQ90, l90, y90, z90⟩, st90⟩ := X89.virtualBack hx (y := own_y7) (z := own_y7) hown (mvT hZ w_47) (mvT hZ w_48) (notFace_of_selects (args := #[]) (mvT hZ w_50)) (mvT hZ w_50) (mvT hZ w_49) (by decide) (backOf (W := 0) (own_eqT l Z a0 hw [] a53 a53 a1 p0 p0 T78.heap n0 F83 F84 F84 F85 F85 rfl) hZ w_51 w_38 (by decide) (by decide)) qa90 qc90 (g := (mkF m 184 #[iv p0, iv p1, iv p2, rv a1, rv a26, iv (0 : Int32), iv (0 : Int32), iv (0 : Int32), iv p1, rv a53, rv a68, rv a68, iv (0 : Int32), iv (0 : Int32)] [(.ref a53), (.ref a53)])) rfl (by rw [hml]; rfl) (Steps.refl _) (argsL := [(.ref a53)]) (rest := []) (lenOf own_pd5 rfl) rfl (by show 2 * 0 + _ ≤ _; exact own_b rfl) (hb hby at_184) (fun _ _ => ⟨rfl, e89, (own_b rfl : 20 + 0 ≤ _), (own_b rfl : 43030 + 0 ≤ _)⟩)
        dsimp only [Pt.U, Pt.locs, Pt.cells, Pt.slots] at X90 l90 y90 z90 st90 hQ90
        obtain ⟨rfl, Nq90, eq90⟩ := hQ90
        obtain ⟨L90, X90, N90⟩ := own_absC (K := 20) (K' := 43030) X90 l90 y90 z90 N89 Nq90
        have e90 : T90.heap = T78.heap := eq90
        refine own_tr (B := (T90.setTop (mkF m 187 #[iv p0, iv p1, iv p2, rv a1, rv a26, iv (0 : Int32), iv (0 : Int32), iv (0 : Int32), iv p1, rv a53, rv a68, rv a68, iv (0 : Int32), iv (0 : Int32)] [(.int (1 : Int32))]))) st90 ?_
        have hc187 : ¬ (1 : Int32) = (0 : Int32) := (by decide)
        refine own_ifY X90 hx (hb hby at_187) (pc' := 192) (by decide) (by decide) hc187 ?_
        refine own_go (B := (T90.setTop (mkF m 194 #[iv p0, iv p1, iv p2, rv a1, rv a26, iv (0 : Int32), iv (0 : Int32), iv (0 : Int32), iv p1, rv a53, rv a68, rv a68, iv (0 : Int32), iv (0 : Int32)] [(.int (0 : Int32))]))) (fun t k => XS.iload X90.here hx rfl (hb hby at_192) rfl k) ?_
        have hc194 : (0 : Int32) = (0 : Int32) := (by decide)
        refine own_ifN X90 hx (hb hby at_194) (pn := 197) rfl hc194 ?_
        refine own_go (B := (T90.setTop (mkF m 199 #[iv p0, iv p1, iv p2, rv a1, rv a26, iv (0 : Int32), iv (0 : Int32), iv (0 : Int32), iv p1, rv a53, rv a68, rv a68, iv (0 : Int32), iv (0 : Int32)] [(.ref a68)]))) (fun t k => XS.aload X90.here hx rfl (hb hby at_197) rfl rfl k) ?_
        refine own_go (B := (T90.setTop (mkF m 201 #[iv p0, iv p1, iv p2, rv a1, rv a26, iv (0 : Int32), iv (0 : Int32), iv (0 : Int32), iv p1, rv a53, rv a68, rv a68, iv (0 : Int32), iv (0 : Int32)] [(.ref a53), (.ref a68)]))) (fun t k => XS.aload X90.here hx rfl (hb hby at_199) rfl rfl k) ?_
        obtain ⟨cq91, kq91, qa91, qb91, qc91⟩ := isOf hZ e90 Ex78
        obtain ⟨_, _, ⟨T91, L91, k91, n91⟩, -, X91, ⟨Lc91, hQ91, l91, y91, z91⟩, st91⟩ := X90.virtualBack hx (y := own_y7) (z := own_y7) hown (mvT hZ w_47) (mvT hZ w_48) (notFace_of_selects (args := #[]) (mvT hZ w_50)) (mvT hZ w_50) (mvT hZ w_49) (by decide) (backOf (W := 0) (own_eqB l Z a0 hw [] a68 a53 a26 a1 p1 p0 T78.heap n0 F83 g0_78 F84 g1_78 F85 (ne26_a1)) hZ w_51 w_38 (by decide) (by decide)) qa91 qc91 (g := (mkF m 201 #[iv p0, iv p1, iv p2, rv a1, rv a26, iv (0 : Int32), iv (0 : Int32), iv (0 : Int32), iv p1, rv a53, rv a68, rv a68, iv (0 : Int32), iv (0 : Int32)] [(.ref a53), (.ref a68)])) rfl (by rw [hml]; rfl) (Steps.refl _) (argsL := [(.ref a53)]) (rest := []) (lenOf own_pd5 rfl) rfl (by show 2 * 0 + _ ≤ _; exact own_b rfl) (hb hby at_201) (fun _ _ => ⟨rfl, e90, (own_b rfl : 20 + 0 ≤ _), (own_b rfl : 43030 + 0 ≤ _)⟩)
        dsimp only [Pt.U, Pt.locs, Pt.cells, Pt.slots] at X91 l91 y91 z91 st91 hQ91
        obtain ⟨rfl, Nq91, eq91⟩ := hQ91
        obtain ⟨L91, X91, N91⟩ := own_absC (K := 20) (K' := 43030) X91 l91 y91 z91 N90 Nq91
        have e91 : T91.heap = T78.heap := eq91
        refine own_tr (B := (T91.setTop (mkF m 204 #[iv p0, iv p1, iv p2, rv a1, rv a26, iv (0 : Int32), iv (0 : Int32), iv (0 : Int32), iv p1, rv a53, rv a68, rv a68, iv (0 : Int32), iv (0 : Int32)] [(.int (0 : Int32))]))) st91 ?_
        refine own_go (B := (T91.setTop (mkF m 206 #[iv p0, iv p1, iv p2, rv a1, rv a26, iv (0 : Int32), iv (0 : Int32), iv (0 : Int32), iv p1, rv a53, rv a68, rv a68, iv (0 : Int32), iv (0 : Int32)] [(.int (0 : Int32)), (.int (0 : Int32))]))) (fun t k => XS.iload X91.here hx rfl (hb hby at_204) rfl k) ?_
        have hc206 : (0 : Int32) = (0 : Int32) := (by decide)
        refine own_icmpY X91 hx (hb hby at_206) (pc' := 211) (by decide) (by decide) hc206 ?_
        refine own_go (B := (T91.setTop (mkF m 212 #[iv p0, iv p1, iv p2, rv a1, rv a26, iv (0 : Int32), iv (0 : Int32), iv (0 : Int32), iv p1, rv a53, rv a68, rv a68, iv (0 : Int32), iv (0 : Int32)] [(.int (1 : Int32))]))) (fun t k => own_iconst (v := (1 : Int32)) X91.here hx rfl (hb hby at_211) (by decide) k) ?_
        exact own_retZ X91 hx hlk Bd.returns (hb hby at_212) (by decide) (own_b rfl) (own_b rfl) (Q := (own_law_Q Z p0 p1 p2 ca h0 n0)) ⟨rfl, N91⟩
      · refine own_go (B := (T39.setTop (mkF m 54 #[iv p0, iv p1, iv p2, rv a1, rv a26, iv (0 : Int32), iv (0 : Int32), iv (1 : Int32), .unset, .unset, .unset, .unset, .unset, .unset] [(.int (0 : Int32))]))) (fun t k => XS.iload X39.here hx rfl (hb hby at_52) rfl k) ?_
        have hc54 : (0 : Int32) = (0 : Int32) := (by decide)
        refine own_ifY X39 hx (hb hby at_54) (pc' := 61) (by decide) (by decide) hc54 ?_
        refine own_go (B := (T39.setTop (mkF m 62 #[iv p0, iv p1, iv p2, rv a1, rv a26, iv (0 : Int32), iv (0 : Int32), iv (1 : Int32), .unset, .unset, .unset, .unset, .unset, .unset] [(.int p1)]))) (fun t k => XS.iloadN X39.here hx rfl (hb hby at_61) rfl k) ?_
        refine own_go (B := (T39.setTop (mkF m 64 #[iv p0, iv p1, iv p2, rv a1, rv a26, iv (0 : Int32), iv (0 : Int32), iv (1 : Int32), iv p1, .unset, .unset, .unset, .unset, .unset] []))) (fun t k => XS.istore X39.here hx rfl (hb hby at_62) rfl (l' := #[iv p0, iv p1, iv p2, rv a1, rv a26, iv (0 : Int32), iv (0 : Int32), iv (1 : Int32), iv p1, .unset, .unset, .unset, .unset, .unset]) rfl k) ?_
        obtain ⟨T92, h92, X92, e92, E92, A92, D92, U92, st92⟩ := newO X39 hx hZ hown w_36 w_37 w_38 rfl (g := (mkF m 64 #[iv p0, iv p1, iv p2, rv a1, rv a26, iv (0 : Int32), iv (0 : Int32), iv (1 : Int32), iv p1, .unset, .unset, .unset, .unset, .unset] [])) rfl (hb hby at_64) (own_b rfl) (own_b rfl)
        obtain ⟨a92, ga92⟩ : ∃ z, z = T39.heap.size := ⟨_, rfl⟩
        rw [← ga92] at A92 D92 U92 st92
        refine own_go (B := (T92.setTop (mkF m 67 #[iv p0, iv p1, iv p2, rv a1, rv a26, iv (0 : Int32), iv (0 : Int32), iv (1 : Int32), iv p1, .unset, .unset, .unset, .unset, .unset] [(.ref a92)]))) st92 ?_
        have Z93 : n0 ≤ h92.size := Nat.le_trans F40 E92.1
        have K94 := Keep.ext F41 E92
        have F95 := Exa.ext E92 F42
        have F96 := Exa.ext E92 Ex39
        have gn92 : n0 ≤ a92 := Nat.le_trans F40 (Nat.le_of_eq ga92.symm)
        have ne92_a1 : a92 ≠ a1 := fun q => absurd (F42.lt) (by rw [← q, ga92]; exact Nat.lt_irrefl _)
        have ne92_a26 : a92 ≠ a26 := fun q => absurd (Ex39.lt) (by rw [← q, ga92]; exact Nat.lt_irrefl _)
        have F97 : Fld Z h92 a92 "com/example/parts_to_policy/partstopolicy/policy/PacketSet" "bdd" "Lcom/example/parts_to_policy/partstopolicy/policy/Bdd;" .null := D92 (Or.inr w_44) (ty := (.object "com/example/parts_to_policy/partstopolicy/policy/Bdd")) (by decide)
        have F98 : Fld Z h92 a92 "com/example/parts_to_policy/partstopolicy/policy/PacketSet" "node" "I" (.int (0 : Int32)) := D92 (Or.inr w_46) (ty := .int) (by decide)
        refine own_go (B := (T92.setTop (mkF m 68 #[iv p0, iv p1, iv p2, rv a1, rv a26, iv (0 : Int32), iv (0 : Int32), iv (1 : Int32), iv p1, .unset, .unset, .unset, .unset, .unset] [(.ref a92), (.ref a92)]))) (fun t k => XS.dup X92.here hx rfl (hb hby at_67) rfl rfl k) ?_
        refine own_go (B := (T92.setTop (mkF m 69 #[iv p0, iv p1, iv p2, rv a1, rv a26, iv (0 : Int32), iv (0 : Int32), iv (1 : Int32), iv p1, .unset, .unset, .unset, .unset, .unset] [(.ref a1), (.ref a92), (.ref a92)]))) (fun t k => XS.aloadN X92.here hx rfl (hb hby at_68) rfl rfl k) ?_
        refine own_go (B := (T92.setTop (mkF m 70 #[iv p0, iv p1, iv p2, rv a1, rv a26, iv (0 : Int32), iv (0 : Int32), iv (1 : Int32), iv p1, .unset, .unset, .unset, .unset, .unset] [(.int p0), (.ref a1), (.ref a92), (.ref a92)]))) (fun t k => XS.iloadN X92.here hx rfl (hb hby at_69) rfl k) ?_
        obtain ⟨_, _, ⟨T99, L99, k99, n99⟩, -, X99, ⟨Lc99, hQ99, l99, y99, z99⟩, st99⟩ := X92.specialBack hx (y := own_y6) rfl hown (mvT hZ w_39) (mvT hZ w_40) (mvT hZ w_41) (by decide) (backOf (W := 1) (own_pct l Z a0 hw [] a92 a1 p0 h92 n0 Z93 A92 gn92 F97 F98) hZ w_41 w_38 (by decide) (by decide)) (g := (mkF m 70 #[iv p0, iv p1, iv p2, rv a1, rv a26, iv (0 : Int32), iv (0 : Int32), iv (1 : Int32), iv p1, .unset, .unset, .unset, .unset, .unset] [(.int p0), (.ref a1), (.ref a92), (.ref a92)])) rfl (by rw [hml]; rfl) (Steps.refl _) (a := a92) (argsL := [(.ref a1), (.int p0)]) (rest := [(.ref a92)]) (lenOf own_pd4 rfl) rfl (by show 2 * 0 + _ ≤ _; exact own_b rfl) (hb hby at_70) (fun _ _ => ⟨rfl, e92, (own_b rfl : 19 + 0 ≤ _), (own_b rfl : 43028 + 0 ≤ _)⟩)
        dsimp only [Pt.U, Pt.locs, Pt.cells, Pt.slots] at X99 l99 y99 z99 st99 hQ99
        obtain ⟨rfl, Nq99, K99, Ex99, g0_99, g1_99⟩ := hQ99
        obtain ⟨L99, X99, N99⟩ := own_absC (K := 19) (K' := 43028) X99 l99 y99 z99 N39 Nq99
        have F100 : n0 ≤ T99.heap.size := Nat.le_trans Z93 K99.1
        have F101 := Keep.trans K94 K99 (allS (Or.inr (Nat.le_trans F41.1 (Nat.le_of_eq ga92.symm))) all0)
        have F102 := Exa.keep F95 K99
        have F103 := Exa.keep F96 K99
        have F104 := Exa.keep A92 K99
        refine own_tr (B := (T99.setTop (mkF m 73 #[iv p0, iv p1, iv p2, rv a1, rv a26, iv (0 : Int32), iv (0 : Int32), iv (1 : Int32), iv p1, .unset, .unset, .unset, .unset, .unset] [(.ref a92)]))) st99 ?_
        refine own_go (B := (T99.setTop (mkF m 75 #[iv p0, iv p1, iv p2, rv a1, rv a26, iv (0 : Int32), iv (0 : Int32), iv (1 : Int32), iv p1, rv a92, .unset, .unset, .unset, .unset] []))) (fun t k => XS.astore X99.here hx rfl (hb hby at_73) rfl rfl (l' := #[iv p0, iv p1, iv p2, rv a1, rv a26, iv (0 : Int32), iv (0 : Int32), iv (1 : Int32), iv p1, rv a92, .unset, .unset, .unset, .unset]) rfl k) ?_
        obtain ⟨T107, h107, X107, e107, E107, A107, D107, U107, st107⟩ := newO X99 hx hZ hown w_36 w_37 w_38 rfl (g := (mkF m 75 #[iv p0, iv p1, iv p2, rv a1, rv a26, iv (0 : Int32), iv (0 : Int32), iv (1 : Int32), iv p1, rv a92, .unset, .unset, .unset, .unset] [])) rfl (hb hby at_75) (own_b rfl) (own_b rfl)
        obtain ⟨a107, ga107⟩ : ∃ z, z = T99.heap.size := ⟨_, rfl⟩
        rw [← ga107] at A107 D107 U107 st107
        refine own_go (B := (T107.setTop (mkF m 78 #[iv p0, iv p1, iv p2, rv a1, rv a26, iv (0 : Int32), iv (0 : Int32), iv (1 : Int32), iv p1, rv a92, .unset, .unset, .unset, .unset] [(.ref a107)]))) st107 ?_
        have Z108 : n0 ≤ h107.size := Nat.le_trans F100 E107.1
        have K109 := Keep.ext F101 E107
        have F110 := Exa.ext E107 F102
        have F111 := Exa.ext E107 F103
        have F112 := Exa.ext E107 Ex99
        have F113 := Fld.ext E107 g0_99
        have F114 := Fld.ext E107 g1_99
        have gn107 : n0 ≤ a107 := Nat.le_trans F100 (Nat.le_of_eq ga107.symm)
        have ne107_a1 : a107 ≠ a1 := fun q => absurd (F102.lt) (by rw [← q, ga107]; exact Nat.lt_irrefl _)
        have ne107_a26 : a107 ≠ a26 := fun q => absurd (F103.lt) (by rw [← q, ga107]; exact Nat.lt_irrefl _)
        have ne107_a92 : a107 ≠ a92 := fun q => absurd (Ex99.lt) (by rw [← q, ga107]; exact Nat.lt_irrefl _)
        have F115 : Fld Z h107 a107 "com/example/parts_to_policy/partstopolicy/policy/PacketSet" "bdd" "Lcom/example/parts_to_policy/partstopolicy/policy/Bdd;" .null := D107 (Or.inr w_44) (ty := (.object "com/example/parts_to_policy/partstopolicy/policy/Bdd")) (by decide)
        have F116 : Fld Z h107 a107 "com/example/parts_to_policy/partstopolicy/policy/PacketSet" "node" "I" (.int (0 : Int32)) := D107 (Or.inr w_46) (ty := .int) (by decide)
        refine own_go (B := (T107.setTop (mkF m 79 #[iv p0, iv p1, iv p2, rv a1, rv a26, iv (0 : Int32), iv (0 : Int32), iv (1 : Int32), iv p1, rv a92, .unset, .unset, .unset, .unset] [(.ref a107), (.ref a107)]))) (fun t k => XS.dup X107.here hx rfl (hb hby at_78) rfl rfl k) ?_
        refine own_go (B := (T107.setTop (mkF m 81 #[iv p0, iv p1, iv p2, rv a1, rv a26, iv (0 : Int32), iv (0 : Int32), iv (1 : Int32), iv p1, rv a92, .unset, .unset, .unset, .unset] [(.int (0 : Int32)), (.ref a107), (.ref a107)]))) (fun t k => XS.iload X107.here hx rfl (hb hby at_79) rfl k) ?_
        have hc81 : (0 : Int32) = (0 : Int32) := (by decide)
        refine own_ifY X107 hx (hb hby at_81) (pc' := 88) (by decide) (by decide) hc81 ?_
        refine own_go (B := (T107.setTop (mkF m 90 #[iv p0, iv p1, iv p2, rv a1, rv a26, iv (0 : Int32), iv (0 : Int32), iv (1 : Int32), iv p1, rv a92, .unset, .unset, .unset, .unset] [(.ref a26), (.ref a107), (.ref a107)]))) (fun t k => XS.aload X107.here hx rfl (hb hby at_88) rfl rfl k) ?_
        refine own_go (B := (T107.setTop (mkF m 92 #[iv p0, iv p1, iv p2, rv a1, rv a26, iv (0 : Int32), iv (0 : Int32), iv (1 : Int32), iv p1, rv a92, .unset, .unset, .unset, .unset] [(.int p1), (.ref a26), (.ref a107), (.ref a107)]))) (fun t k => XS.iload X107.here hx rfl (hb hby at_90) rfl k) ?_
        obtain ⟨_, _, ⟨T117, L117, k117, n117⟩, -, X117, ⟨Lc117, hQ117, l117, y117, z117⟩, st117⟩ := X107.specialBack hx (y := own_y6) rfl hown (mvT hZ w_39) (mvT hZ w_40) (mvT hZ w_41) (by decide) (backOf (W := 1) (own_pct l Z a0 hw [] a107 a26 p1 h107 n0 Z108 A107 gn107 F115 F116) hZ w_41 w_38 (by decide) (by decide)) (g := (mkF m 92 #[iv p0, iv p1, iv p2, rv a1, rv a26, iv (0 : Int32), iv (0 : Int32), iv (1 : Int32), iv p1, rv a92, .unset, .unset, .unset, .unset] [(.int p1), (.ref a26), (.ref a107), (.ref a107)])) rfl (by rw [hml]; rfl) (Steps.refl _) (a := a107) (argsL := [(.ref a26), (.int p1)]) (rest := [(.ref a107)]) (lenOf own_pd4 rfl) rfl (by show 2 * 0 + _ ≤ _; exact own_b rfl) (hb hby at_92) (fun _ _ => ⟨rfl, e107, (own_b rfl : 20 + 0 ≤ _), (own_b rfl : 43030 + 0 ≤ _)⟩)
        dsimp only [Pt.U, Pt.locs, Pt.cells, Pt.slots] at X117 l117 y117 z117 st117 hQ117
        obtain ⟨rfl, Nq117, K117, Ex117, g0_117, g1_117⟩ := hQ117
        obtain ⟨L117, X117, N117⟩ := own_absC (K := 20) (K' := 43030) X117 l117 y117 z117 N99 Nq117
        have F118 : n0 ≤ T117.heap.size := Nat.le_trans Z108 K117.1
        have F119 := Keep.trans K109 K117 (allS (Or.inr (Nat.le_trans F101.1 (Nat.le_of_eq ga107.symm))) all0)
        have F120 := Exa.keep F110 K117
        have F121 := Exa.keep F111 K117
        have F122 := Exa.keep F112 K117
        have F123 := Fld.keep F113 K117 (ninS (Ne.symm ne107_a92) nin0)
        have F124 := Fld.keep F114 K117 (ninS (Ne.symm ne107_a92) nin0)
        have F125 := Exa.keep A107 K117
        refine own_tr (B := (T117.setTop (mkF m 95 #[iv p0, iv p1, iv p2, rv a1, rv a26, iv (0 : Int32), iv (0 : Int32), iv (1 : Int32), iv p1, rv a92, .unset, .unset, .unset, .unset] [(.ref a107)]))) st117 ?_
        refine own_go (B := (T117.setTop (mkF m 97 #[iv p0, iv p1, iv p2, rv a1, rv a26, iv (0 : Int32), iv (0 : Int32), iv (1 : Int32), iv p1, rv a92, rv a107, .unset, .unset, .unset] []))) (fun t k => XS.astore X117.here hx rfl (hb hby at_95) rfl rfl (l' := #[iv p0, iv p1, iv p2, rv a1, rv a26, iv (0 : Int32), iv (0 : Int32), iv (1 : Int32), iv p1, rv a92, rv a107, .unset, .unset, .unset]) rfl k) ?_
        refine own_go (B := (T117.setTop (mkF m 99 #[iv p0, iv p1, iv p2, rv a1, rv a26, iv (0 : Int32), iv (0 : Int32), iv (1 : Int32), iv p1, rv a92, rv a107, .unset, .unset, .unset] [(.int (1 : Int32))]))) (fun t k => XS.iload X117.here hx rfl (hb hby at_97) rfl k) ?_
        have hc99 : ¬ (1 : Int32) = (0 : Int32) := (by decide)
        refine own_ifY X117 hx (hb hby at_99) (pc' := 109) (by decide) (by decide) hc99 ?_
        refine own_go (B := (T117.setTop (mkF m 111 #[iv p0, iv p1, iv p2, rv a1, rv a26, iv (0 : Int32), iv (0 : Int32), iv (1 : Int32), iv p1, rv a92, rv a107, .unset, .unset, .unset] [(.int (1 : Int32))]))) (fun t k => XS.iload X117.here hx rfl (hb hby at_109) rfl k) ?_
        refine own_go (B := (T117.setTop (mkF m 112 #[iv p0, iv p1, iv p2, rv a1, rv a26, iv (0 : Int32), iv (0 : Int32), iv (1 : Int32), iv p1, rv a92, rv a107, .unset, .unset, .unset] [(.int (1 : Int32)), (.int (1 : Int32))]))) (fun t k => own_iconst (v := (1 : Int32)) X117.here hx rfl (hb hby at_111) (by decide) k) ?_
        have hc112 : (1 : Int32) = (1 : Int32) := (by decide)
        refine own_icmpN X117 hx (hb hby at_112) (pn := 115) rfl hc112 ?_
        refine own_go (B := (T117.setTop (mkF m 116 #[iv p0, iv p1, iv p2, rv a1, rv a26, iv (0 : Int32), iv (0 : Int32), iv (1 : Int32), iv p1, rv a92, rv a107, .unset, .unset, .unset] [.null]))) (fun t k => XS.aconstNull X117.here hx rfl (hb hby at_115) k) ?_
        refine own_go (B := (T117.setTop (mkF m 118 #[iv p0, iv p1, iv p2, rv a1, rv a26, iv (0 : Int32), iv (0 : Int32), iv (1 : Int32), iv p1, rv a92, rv a107, .val .null, .unset, .unset] []))) (fun t k => XS.astore X117.here hx rfl (hb hby at_116) rfl rfl (l' := #[iv p0, iv p1, iv p2, rv a1, rv a26, iv (0 : Int32), iv (0 : Int32), iv (1 : Int32), iv p1, rv a92, rv a107, .val .null, .unset, .unset]) rfl k) ?_
        refine own_go (B := (T117.setTop (mkF m 139 #[iv p0, iv p1, iv p2, rv a1, rv a26, iv (0 : Int32), iv (0 : Int32), iv (1 : Int32), iv p1, rv a92, rv a107, .val .null, .unset, .unset] []))) (fun t k => XS.goto X117.here hx rfl (pc0 := 118) (pc' := 139) rfl (hb hby at_118) (by decide) (by decide) k) ?_
        refine own_go (B := (T117.setTop (mkF m 141 #[iv p0, iv p1, iv p2, rv a1, rv a26, iv (0 : Int32), iv (0 : Int32), iv (1 : Int32), iv p1, rv a92, rv a107, .val .null, .unset, .unset] [(.int (1 : Int32))]))) (fun t k => XS.iload X117.here hx rfl (hb hby at_139) rfl k) ?_
        have hc141 : ¬ (1 : Int32) = (0 : Int32) := (by decide)
        refine own_ifY X117 hx (hb hby at_141) (pc' := 159) (by decide) (by decide) hc141 ?_
        refine own_go (B := (T117.setTop (mkF m 160 #[iv p0, iv p1, iv p2, rv a1, rv a26, iv (0 : Int32), iv (0 : Int32), iv (1 : Int32), iv p1, rv a92, rv a107, .val .null, .unset, .unset] [(.int (0 : Int32))]))) (fun t k => own_iconst (v := (0 : Int32)) X117.here hx rfl (hb hby at_159) (by decide) k) ?_
        refine own_go (B := (T117.setTop (mkF m 162 #[iv p0, iv p1, iv p2, rv a1, rv a26, iv (0 : Int32), iv (0 : Int32), iv (1 : Int32), iv p1, rv a92, rv a107, .val .null, iv (0 : Int32), .unset] []))) (fun t k => XS.istore X117.here hx rfl (hb hby at_160) rfl (l' := #[iv p0, iv p1, iv p2, rv a1, rv a26, iv (0 : Int32), iv (0 : Int32), iv (1 : Int32), iv p1, rv a92, rv a107, .val .null, iv (0 : Int32), .unset]) rfl k) ?_
        refine own_go (B := (T117.setTop (mkF m 164 #[iv p0, iv p1, iv p2, rv a1, rv a26, iv (0 : Int32), iv (0 : Int32), iv (1 : Int32), iv p1, rv a92, rv a107, .val .null, iv (0 : Int32), .unset] [(.ref a92)]))) (fun t k => XS.aload X117.here hx rfl (hb hby at_162) rfl rfl k) ?_
        refine own_go (B := (T117.setTop (mkF m 166 #[iv p0, iv p1, iv p2, rv a1, rv a26, iv (0 : Int32), iv (0 : Int32), iv (1 : Int32), iv p1, rv a92, rv a107, .val .null, iv (0 : Int32), .unset] [.null, (.ref a92)]))) (fun t k => XS.aload X117.here hx rfl (hb hby at_164) rfl rfl k) ?_
        obtain ⟨cq128, kq128, qa128, qb128, qc128⟩ := isOf hZ rfl F122
        obtain ⟨_, _, ⟨T128, L128, k128, n128⟩, -, X128, ⟨Lc128, hQ128, l128, y128, z128⟩, st128⟩ := X117.virtualBack hx (y := own_y7) (z := own_y7) hown (mvT hZ w_47) (mvT hZ w_48) (notFace_of_selects (args := #[]) (mvT hZ w_50)) (mvT hZ w_50) (mvT hZ w_49) (by decide) (backOf (W := 0) (own_eqnull l Z a0 hw [] a92 T117.heap n0) hZ w_51 w_38 (by decide) (by decide)) qa128 qc128 (g := (mkF m 166 #[iv p0, iv p1, iv p2, rv a1, rv a26, iv (0 : Int32), iv (0 : Int32), iv (1 : Int32), iv p1, rv a92, rv a107, .val .null, iv (0 : Int32), .unset] [.null, (.ref a92)])) rfl (by rw [hml]; rfl) (Steps.refl _) (argsL := [.null]) (rest := []) (lenOf own_pd5 rfl) rfl (by show 2 * 0 + _ ≤ _; exact own_b rfl) (hb hby at_166) (fun _ _ => ⟨rfl, rfl, (own_b rfl : 20 + 0 ≤ _), (own_b rfl : 43030 + 0 ≤ _)⟩)
        dsimp only [Pt.U, Pt.locs, Pt.cells, Pt.slots] at X128 l128 y128 z128 st128 hQ128
        obtain ⟨rfl, Nq128, eq128⟩ := hQ128
        obtain ⟨L128, X128, N128⟩ := own_absC (K := 20) (K' := 43030) X128 l128 y128 z128 N117 Nq128
        have e128 : T128.heap = T117.heap := eq128
        refine own_tr (B := (T128.setTop (mkF m 169 #[iv p0, iv p1, iv p2, rv a1, rv a26, iv (0 : Int32), iv (0 : Int32), iv (1 : Int32), iv p1, rv a92, rv a107, .val .null, iv (0 : Int32), .unset] [(.int (0 : Int32))]))) st128 ?_
        refine own_go (B := (T128.setTop (mkF m 171 #[iv p0, iv p1, iv p2, rv a1, rv a26, iv (0 : Int32), iv (0 : Int32), iv (1 : Int32), iv p1, rv a92, rv a107, .val .null, iv (0 : Int32), iv (0 : Int32)] []))) (fun t k => XS.istore X128.here hx rfl (hb hby at_169) rfl (l' := #[iv p0, iv p1, iv p2, rv a1, rv a26, iv (0 : Int32), iv (0 : Int32), iv (1 : Int32), iv p1, rv a92, rv a107, .val .null, iv (0 : Int32), iv (0 : Int32)]) rfl k) ?_
        refine own_go (B := (T128.setTop (mkF m 173 #[iv p0, iv p1, iv p2, rv a1, rv a26, iv (0 : Int32), iv (0 : Int32), iv (1 : Int32), iv p1, rv a92, rv a107, .val .null, iv (0 : Int32), iv (0 : Int32)] [(.int (0 : Int32))]))) (fun t k => XS.iload X128.here hx rfl (hb hby at_171) rfl k) ?_
        refine own_go (B := (T128.setTop (mkF m 175 #[iv p0, iv p1, iv p2, rv a1, rv a26, iv (0 : Int32), iv (0 : Int32), iv (1 : Int32), iv p1, rv a92, rv a107, .val .null, iv (0 : Int32), iv (0 : Int32)] [(.int (0 : Int32)), (.int (0 : Int32))]))) (fun t k => XS.iload X128.here hx rfl (hb hby at_173) rfl k) ?_
        have hc175 : (0 : Int32) = (0 : Int32) := (by decide)
        refine own_icmpY X128 hx (hb hby at_175) (pc' := 180) (by decide) (by decide) hc175 ?_
        refine own_go (B := (T128.setTop (mkF m 182 #[iv p0, iv p1, iv p2, rv a1, rv a26, iv (0 : Int32), iv (0 : Int32), iv (1 : Int32), iv p1, rv a92, rv a107, .val .null, iv (0 : Int32), iv (0 : Int32)] [(.ref a92)]))) (fun t k => XS.aload X128.here hx rfl (hb hby at_180) rfl rfl k) ?_
        refine own_go (B := (T128.setTop (mkF m 184 #[iv p0, iv p1, iv p2, rv a1, rv a26, iv (0 : Int32), iv (0 : Int32), iv (1 : Int32), iv p1, rv a92, rv a107, .val .null, iv (0 : Int32), iv (0 : Int32)] [(.ref a92), (.ref a92)]))) (fun t k => XS.aload X128.here hx rfl (hb hby at_182) rfl rfl k) ?_
        obtain ⟨cq129, kq129, qa129, qb129, qc129⟩ := isOf hZ e128 F122
        obtain ⟨_, _, ⟨T129, L129, k129, n129⟩, -, X129, ⟨Lc129, hQ129, l129, y129, z129⟩, st129⟩ := X128.virtualBack hx (y := own_y7) (z := own_y7) hown (mvT hZ w_47) (mvT hZ w_48) (notFace_of_selects (args := #[]) (mvT hZ w_50)) (mvT hZ w_50) (mvT hZ w_49) (by decide) (backOf (W := 0) (own_eqT l Z a0 hw [] a92 a92 a1 p0 p0 T117.heap n0 F122 F123 F123 F124 F124 rfl) hZ w_51 w_38 (by decide) (by decide)) qa129 qc129 (g := (mkF m 184 #[iv p0, iv p1, iv p2, rv a1, rv a26, iv (0 : Int32), iv (0 : Int32), iv (1 : Int32), iv p1, rv a92, rv a107, .val .null, iv (0 : Int32), iv (0 : Int32)] [(.ref a92), (.ref a92)])) rfl (by rw [hml]; rfl) (Steps.refl _) (argsL := [(.ref a92)]) (rest := []) (lenOf own_pd5 rfl) rfl (by show 2 * 0 + _ ≤ _; exact own_b rfl) (hb hby at_184) (fun _ _ => ⟨rfl, e128, (own_b rfl : 20 + 0 ≤ _), (own_b rfl : 43030 + 0 ≤ _)⟩)
        dsimp only [Pt.U, Pt.locs, Pt.cells, Pt.slots] at X129 l129 y129 z129 st129 hQ129
        obtain ⟨rfl, Nq129, eq129⟩ := hQ129
        obtain ⟨L129, X129, N129⟩ := own_absC (K := 20) (K' := 43030) X129 l129 y129 z129 N128 Nq129
        have e129 : T129.heap = T117.heap := eq129
        refine own_tr (B := (T129.setTop (mkF m 187 #[iv p0, iv p1, iv p2, rv a1, rv a26, iv (0 : Int32), iv (0 : Int32), iv (1 : Int32), iv p1, rv a92, rv a107, .val .null, iv (0 : Int32), iv (0 : Int32)] [(.int (1 : Int32))]))) st129 ?_
        have hc187 : ¬ (1 : Int32) = (0 : Int32) := (by decide)
        refine own_ifY X129 hx (hb hby at_187) (pc' := 192) (by decide) (by decide) hc187 ?_
        refine own_go (B := (T129.setTop (mkF m 194 #[iv p0, iv p1, iv p2, rv a1, rv a26, iv (0 : Int32), iv (0 : Int32), iv (1 : Int32), iv p1, rv a92, rv a107, .val .null, iv (0 : Int32), iv (0 : Int32)] [(.int (1 : Int32))]))) (fun t k => XS.iload X129.here hx rfl (hb hby at_192) rfl k) ?_
        have hc194 : ¬ (1 : Int32) = (0 : Int32) := (by decide)
        refine own_ifY X129 hx (hb hby at_194) (pc' := 211) (by decide) (by decide) hc194 ?_
        refine own_go (B := (T129.setTop (mkF m 212 #[iv p0, iv p1, iv p2, rv a1, rv a26, iv (0 : Int32), iv (0 : Int32), iv (1 : Int32), iv p1, rv a92, rv a107, .val .null, iv (0 : Int32), iv (0 : Int32)] [(.int (1 : Int32))]))) (fun t k => own_iconst (v := (1 : Int32)) X129.here hx rfl (hb hby at_211) (by decide) k) ?_
        exact own_retZ X129 hx hlk Bd.returns (hb hby at_212) (by decide) (own_b rfl) (own_b rfl) (Q := (own_law_Q Z p0 p1 p2 ca h0 n0)) ⟨rfl, N129⟩
      · refine own_go (B := (T39.setTop (mkF m 54 #[iv p0, iv p1, iv p2, rv a1, rv a26, iv (0 : Int32), iv (0 : Int32), iv (2 : Int32), .unset, .unset, .unset, .unset, .unset, .unset] [(.int (0 : Int32))]))) (fun t k => XS.iload X39.here hx rfl (hb hby at_52) rfl k) ?_
        have hc54 : (0 : Int32) = (0 : Int32) := (by decide)
        refine own_ifY X39 hx (hb hby at_54) (pc' := 61) (by decide) (by decide) hc54 ?_
        refine own_go (B := (T39.setTop (mkF m 62 #[iv p0, iv p1, iv p2, rv a1, rv a26, iv (0 : Int32), iv (0 : Int32), iv (2 : Int32), .unset, .unset, .unset, .unset, .unset, .unset] [(.int p1)]))) (fun t k => XS.iloadN X39.here hx rfl (hb hby at_61) rfl k) ?_
        refine own_go (B := (T39.setTop (mkF m 64 #[iv p0, iv p1, iv p2, rv a1, rv a26, iv (0 : Int32), iv (0 : Int32), iv (2 : Int32), iv p1, .unset, .unset, .unset, .unset, .unset] []))) (fun t k => XS.istore X39.here hx rfl (hb hby at_62) rfl (l' := #[iv p0, iv p1, iv p2, rv a1, rv a26, iv (0 : Int32), iv (0 : Int32), iv (2 : Int32), iv p1, .unset, .unset, .unset, .unset, .unset]) rfl k) ?_
        obtain ⟨T130, h130, X130, e130, E130, A130, D130, U130, st130⟩ := newO X39 hx hZ hown w_36 w_37 w_38 rfl (g := (mkF m 64 #[iv p0, iv p1, iv p2, rv a1, rv a26, iv (0 : Int32), iv (0 : Int32), iv (2 : Int32), iv p1, .unset, .unset, .unset, .unset, .unset] [])) rfl (hb hby at_64) (own_b rfl) (own_b rfl)
        obtain ⟨a130, ga130⟩ : ∃ z, z = T39.heap.size := ⟨_, rfl⟩
        rw [← ga130] at A130 D130 U130 st130
        refine own_go (B := (T130.setTop (mkF m 67 #[iv p0, iv p1, iv p2, rv a1, rv a26, iv (0 : Int32), iv (0 : Int32), iv (2 : Int32), iv p1, .unset, .unset, .unset, .unset, .unset] [(.ref a130)]))) st130 ?_
        have Z131 : n0 ≤ h130.size := Nat.le_trans F40 E130.1
        have K132 := Keep.ext F41 E130
        have F133 := Exa.ext E130 F42
        have F134 := Exa.ext E130 Ex39
        have gn130 : n0 ≤ a130 := Nat.le_trans F40 (Nat.le_of_eq ga130.symm)
        have ne130_a1 : a130 ≠ a1 := fun q => absurd (F42.lt) (by rw [← q, ga130]; exact Nat.lt_irrefl _)
        have ne130_a26 : a130 ≠ a26 := fun q => absurd (Ex39.lt) (by rw [← q, ga130]; exact Nat.lt_irrefl _)
        have F135 : Fld Z h130 a130 "com/example/parts_to_policy/partstopolicy/policy/PacketSet" "bdd" "Lcom/example/parts_to_policy/partstopolicy/policy/Bdd;" .null := D130 (Or.inr w_44) (ty := (.object "com/example/parts_to_policy/partstopolicy/policy/Bdd")) (by decide)
        have F136 : Fld Z h130 a130 "com/example/parts_to_policy/partstopolicy/policy/PacketSet" "node" "I" (.int (0 : Int32)) := D130 (Or.inr w_46) (ty := .int) (by decide)
        refine own_go (B := (T130.setTop (mkF m 68 #[iv p0, iv p1, iv p2, rv a1, rv a26, iv (0 : Int32), iv (0 : Int32), iv (2 : Int32), iv p1, .unset, .unset, .unset, .unset, .unset] [(.ref a130), (.ref a130)]))) (fun t k => XS.dup X130.here hx rfl (hb hby at_67) rfl rfl k) ?_
        refine own_go (B := (T130.setTop (mkF m 69 #[iv p0, iv p1, iv p2, rv a1, rv a26, iv (0 : Int32), iv (0 : Int32), iv (2 : Int32), iv p1, .unset, .unset, .unset, .unset, .unset] [(.ref a1), (.ref a130), (.ref a130)]))) (fun t k => XS.aloadN X130.here hx rfl (hb hby at_68) rfl rfl k) ?_
        refine own_go (B := (T130.setTop (mkF m 70 #[iv p0, iv p1, iv p2, rv a1, rv a26, iv (0 : Int32), iv (0 : Int32), iv (2 : Int32), iv p1, .unset, .unset, .unset, .unset, .unset] [(.int p0), (.ref a1), (.ref a130), (.ref a130)]))) (fun t k => XS.iloadN X130.here hx rfl (hb hby at_69) rfl k) ?_
        obtain ⟨_, _, ⟨T137, L137, k137, n137⟩, -, X137, ⟨Lc137, hQ137, l137, y137, z137⟩, st137⟩ := X130.specialBack hx (y := own_y6) rfl hown (mvT hZ w_39) (mvT hZ w_40) (mvT hZ w_41) (by decide) (backOf (W := 1) (own_pct l Z a0 hw [] a130 a1 p0 h130 n0 Z131 A130 gn130 F135 F136) hZ w_41 w_38 (by decide) (by decide)) (g := (mkF m 70 #[iv p0, iv p1, iv p2, rv a1, rv a26, iv (0 : Int32), iv (0 : Int32), iv (2 : Int32), iv p1, .unset, .unset, .unset, .unset, .unset] [(.int p0), (.ref a1), (.ref a130), (.ref a130)])) rfl (by rw [hml]; rfl) (Steps.refl _) (a := a130) (argsL := [(.ref a1), (.int p0)]) (rest := [(.ref a130)]) (lenOf own_pd4 rfl) rfl (by show 2 * 0 + _ ≤ _; exact own_b rfl) (hb hby at_70) (fun _ _ => ⟨rfl, e130, (own_b rfl : 19 + 0 ≤ _), (own_b rfl : 43028 + 0 ≤ _)⟩)
        dsimp only [Pt.U, Pt.locs, Pt.cells, Pt.slots] at X137 l137 y137 z137 st137 hQ137
        obtain ⟨rfl, Nq137, K137, Ex137, g0_137, g1_137⟩ := hQ137
        obtain ⟨L137, X137, N137⟩ := own_absC (K := 19) (K' := 43028) X137 l137 y137 z137 N39 Nq137
        have F138 : n0 ≤ T137.heap.size := Nat.le_trans Z131 K137.1
        have F139 := Keep.trans K132 K137 (allS (Or.inr (Nat.le_trans F41.1 (Nat.le_of_eq ga130.symm))) all0)
        have F140 := Exa.keep F133 K137
        have F141 := Exa.keep F134 K137
        have F142 := Exa.keep A130 K137
        refine own_tr (B := (T137.setTop (mkF m 73 #[iv p0, iv p1, iv p2, rv a1, rv a26, iv (0 : Int32), iv (0 : Int32), iv (2 : Int32), iv p1, .unset, .unset, .unset, .unset, .unset] [(.ref a130)]))) st137 ?_
        refine own_go (B := (T137.setTop (mkF m 75 #[iv p0, iv p1, iv p2, rv a1, rv a26, iv (0 : Int32), iv (0 : Int32), iv (2 : Int32), iv p1, rv a130, .unset, .unset, .unset, .unset] []))) (fun t k => XS.astore X137.here hx rfl (hb hby at_73) rfl rfl (l' := #[iv p0, iv p1, iv p2, rv a1, rv a26, iv (0 : Int32), iv (0 : Int32), iv (2 : Int32), iv p1, rv a130, .unset, .unset, .unset, .unset]) rfl k) ?_
        obtain ⟨T145, h145, X145, e145, E145, A145, D145, U145, st145⟩ := newO X137 hx hZ hown w_36 w_37 w_38 rfl (g := (mkF m 75 #[iv p0, iv p1, iv p2, rv a1, rv a26, iv (0 : Int32), iv (0 : Int32), iv (2 : Int32), iv p1, rv a130, .unset, .unset, .unset, .unset] [])) rfl (hb hby at_75) (own_b rfl) (own_b rfl)
        obtain ⟨a145, ga145⟩ : ∃ z, z = T137.heap.size := ⟨_, rfl⟩
        rw [← ga145] at A145 D145 U145 st145
        refine own_go (B := (T145.setTop (mkF m 78 #[iv p0, iv p1, iv p2, rv a1, rv a26, iv (0 : Int32), iv (0 : Int32), iv (2 : Int32), iv p1, rv a130, .unset, .unset, .unset, .unset] [(.ref a145)]))) st145 ?_
        have Z146 : n0 ≤ h145.size := Nat.le_trans F138 E145.1
        have K147 := Keep.ext F139 E145
        have F148 := Exa.ext E145 F140
        have F149 := Exa.ext E145 F141
        have F150 := Exa.ext E145 Ex137
        have F151 := Fld.ext E145 g0_137
        have F152 := Fld.ext E145 g1_137
        have gn145 : n0 ≤ a145 := Nat.le_trans F138 (Nat.le_of_eq ga145.symm)
        have ne145_a1 : a145 ≠ a1 := fun q => absurd (F140.lt) (by rw [← q, ga145]; exact Nat.lt_irrefl _)
        have ne145_a26 : a145 ≠ a26 := fun q => absurd (F141.lt) (by rw [← q, ga145]; exact Nat.lt_irrefl _)
        have ne145_a130 : a145 ≠ a130 := fun q => absurd (Ex137.lt) (by rw [← q, ga145]; exact Nat.lt_irrefl _)
        have F153 : Fld Z h145 a145 "com/example/parts_to_policy/partstopolicy/policy/PacketSet" "bdd" "Lcom/example/parts_to_policy/partstopolicy/policy/Bdd;" .null := D145 (Or.inr w_44) (ty := (.object "com/example/parts_to_policy/partstopolicy/policy/Bdd")) (by decide)
        have F154 : Fld Z h145 a145 "com/example/parts_to_policy/partstopolicy/policy/PacketSet" "node" "I" (.int (0 : Int32)) := D145 (Or.inr w_46) (ty := .int) (by decide)
        refine own_go (B := (T145.setTop (mkF m 79 #[iv p0, iv p1, iv p2, rv a1, rv a26, iv (0 : Int32), iv (0 : Int32), iv (2 : Int32), iv p1, rv a130, .unset, .unset, .unset, .unset] [(.ref a145), (.ref a145)]))) (fun t k => XS.dup X145.here hx rfl (hb hby at_78) rfl rfl k) ?_
        refine own_go (B := (T145.setTop (mkF m 81 #[iv p0, iv p1, iv p2, rv a1, rv a26, iv (0 : Int32), iv (0 : Int32), iv (2 : Int32), iv p1, rv a130, .unset, .unset, .unset, .unset] [(.int (0 : Int32)), (.ref a145), (.ref a145)]))) (fun t k => XS.iload X145.here hx rfl (hb hby at_79) rfl k) ?_
        have hc81 : (0 : Int32) = (0 : Int32) := (by decide)
        refine own_ifY X145 hx (hb hby at_81) (pc' := 88) (by decide) (by decide) hc81 ?_
        refine own_go (B := (T145.setTop (mkF m 90 #[iv p0, iv p1, iv p2, rv a1, rv a26, iv (0 : Int32), iv (0 : Int32), iv (2 : Int32), iv p1, rv a130, .unset, .unset, .unset, .unset] [(.ref a26), (.ref a145), (.ref a145)]))) (fun t k => XS.aload X145.here hx rfl (hb hby at_88) rfl rfl k) ?_
        refine own_go (B := (T145.setTop (mkF m 92 #[iv p0, iv p1, iv p2, rv a1, rv a26, iv (0 : Int32), iv (0 : Int32), iv (2 : Int32), iv p1, rv a130, .unset, .unset, .unset, .unset] [(.int p1), (.ref a26), (.ref a145), (.ref a145)]))) (fun t k => XS.iload X145.here hx rfl (hb hby at_90) rfl k) ?_
        obtain ⟨_, _, ⟨T155, L155, k155, n155⟩, -, X155, ⟨Lc155, hQ155, l155, y155, z155⟩, st155⟩ := X145.specialBack hx (y := own_y6) rfl hown (mvT hZ w_39) (mvT hZ w_40) (mvT hZ w_41) (by decide) (backOf (W := 1) (own_pct l Z a0 hw [] a145 a26 p1 h145 n0 Z146 A145 gn145 F153 F154) hZ w_41 w_38 (by decide) (by decide)) (g := (mkF m 92 #[iv p0, iv p1, iv p2, rv a1, rv a26, iv (0 : Int32), iv (0 : Int32), iv (2 : Int32), iv p1, rv a130, .unset, .unset, .unset, .unset] [(.int p1), (.ref a26), (.ref a145), (.ref a145)])) rfl (by rw [hml]; rfl) (Steps.refl _) (a := a145) (argsL := [(.ref a26), (.int p1)]) (rest := [(.ref a145)]) (lenOf own_pd4 rfl) rfl (by show 2 * 0 + _ ≤ _; exact own_b rfl) (hb hby at_92) (fun _ _ => ⟨rfl, e145, (own_b rfl : 20 + 0 ≤ _), (own_b rfl : 43030 + 0 ≤ _)⟩)
        dsimp only [Pt.U, Pt.locs, Pt.cells, Pt.slots] at X155 l155 y155 z155 st155 hQ155
        obtain ⟨rfl, Nq155, K155, Ex155, g0_155, g1_155⟩ := hQ155
        obtain ⟨L155, X155, N155⟩ := own_absC (K := 20) (K' := 43030) X155 l155 y155 z155 N137 Nq155
        have F156 : n0 ≤ T155.heap.size := Nat.le_trans Z146 K155.1
        have F157 := Keep.trans K147 K155 (allS (Or.inr (Nat.le_trans F139.1 (Nat.le_of_eq ga145.symm))) all0)
        have F158 := Exa.keep F148 K155
        have F159 := Exa.keep F149 K155
        have F160 := Exa.keep F150 K155
        have F161 := Fld.keep F151 K155 (ninS (Ne.symm ne145_a130) nin0)
        have F162 := Fld.keep F152 K155 (ninS (Ne.symm ne145_a130) nin0)
        have F163 := Exa.keep A145 K155
        refine own_tr (B := (T155.setTop (mkF m 95 #[iv p0, iv p1, iv p2, rv a1, rv a26, iv (0 : Int32), iv (0 : Int32), iv (2 : Int32), iv p1, rv a130, .unset, .unset, .unset, .unset] [(.ref a145)]))) st155 ?_
        refine own_go (B := (T155.setTop (mkF m 97 #[iv p0, iv p1, iv p2, rv a1, rv a26, iv (0 : Int32), iv (0 : Int32), iv (2 : Int32), iv p1, rv a130, rv a145, .unset, .unset, .unset] []))) (fun t k => XS.astore X155.here hx rfl (hb hby at_95) rfl rfl (l' := #[iv p0, iv p1, iv p2, rv a1, rv a26, iv (0 : Int32), iv (0 : Int32), iv (2 : Int32), iv p1, rv a130, rv a145, .unset, .unset, .unset]) rfl k) ?_
        refine own_go (B := (T155.setTop (mkF m 99 #[iv p0, iv p1, iv p2, rv a1, rv a26, iv (0 : Int32), iv (0 : Int32), iv (2 : Int32), iv p1, rv a130, rv a145, .unset, .unset, .unset] [(.int (2 : Int32))]))) (fun t k => XS.iload X155.here hx rfl (hb hby at_97) rfl k) ?_
        have hc99 : ¬ (2 : Int32) = (0 : Int32) := (by decide)
        refine own_ifY X155 hx (hb hby at_99) (pc' := 109) (by decide) (by decide) hc99 ?_
        refine own_go (B := (T155.setTop (mkF m 111 #[iv p0, iv p1, iv p2, rv a1, rv a26, iv (0 : Int32), iv (0 : Int32), iv (2 : Int32), iv p1, rv a130, rv a145, .unset, .unset, .unset] [(.int (2 : Int32))]))) (fun t k => XS.iload X155.here hx rfl (hb hby at_109) rfl k) ?_
        refine own_go (B := (T155.setTop (mkF m 112 #[iv p0, iv p1, iv p2, rv a1, rv a26, iv (0 : Int32), iv (0 : Int32), iv (2 : Int32), iv p1, rv a130, rv a145, .unset, .unset, .unset] [(.int (1 : Int32)), (.int (2 : Int32))]))) (fun t k => own_iconst (v := (1 : Int32)) X155.here hx rfl (hb hby at_111) (by decide) k) ?_
        have hc112 : ¬ (2 : Int32) = (1 : Int32) := (by decide)
        refine own_icmpY X155 hx (hb hby at_112) (pc' := 121) (by decide) (by decide) hc112 ?_
        refine own_go (B := (T155.setTop (mkF m 123 #[iv p0, iv p1, iv p2, rv a1, rv a26, iv (0 : Int32), iv (0 : Int32), iv (2 : Int32), iv p1, rv a130, rv a145, .unset, .unset, .unset] [(.int (2 : Int32))]))) (fun t k => XS.iload X155.here hx rfl (hb hby at_121) rfl k) ?_
        refine own_go (B := (T155.setTop (mkF m 124 #[iv p0, iv p1, iv p2, rv a1, rv a26, iv (0 : Int32), iv (0 : Int32), iv (2 : Int32), iv p1, rv a130, rv a145, .unset, .unset, .unset] [(.int (2 : Int32)), (.int (2 : Int32))]))) (fun t k => own_iconst (v := (2 : Int32)) X155.here hx rfl (hb hby at_123) (by decide) k) ?_
        have hc124 : (2 : Int32) = (2 : Int32) := (by decide)
        refine own_icmpN X155 hx (hb hby at_124) (pn := 127) rfl hc124 ?_
        refine own_go (B := (T155.setTop (mkF m 128 #[iv p0, iv p1, iv p2, rv a1, rv a26, iv (0 : Int32), iv (0 : Int32), iv (2 : Int32), iv p1, rv a130, rv a145, .unset, .unset, .unset] [(.int p0)]))) (fun t k => XS.iloadN X155.here hx rfl (hb hby at_127) rfl k) ?_
        obtain ⟨_, _, ⟨T166, L166, k166, n166⟩, -, X166, ⟨Lc166, hQ166, l166, y166, z166⟩, st166⟩ := Jvm.LawKit.callS X155 hx (y := own_y8) hown (mvT hZ w_56) (mvT hZ w_57) (mvT hZ w_58) (mvT hZ w_59) (by decide) (backOf (W := 0) (own_vo l Z a0 hw [] p0 ca T155.heap n0 F156 (own_sta_keep hS1 F157 (fun _ q => nomatch q)) (own_sta_keep hS2 F157 (fun _ q => nomatch q)) (own_Cache_keep hC F157)) hZ w_59 w_58 (by decide) (by decide)) (g := (mkF m 128 #[iv p0, iv p1, iv p2, rv a1, rv a26, iv (0 : Int32), iv (0 : Int32), iv (2 : Int32), iv p1, rv a130, rv a145, .unset, .unset, .unset] [(.int p0)])) rfl (by rw [hml]; rfl) (argsL := [(.int p0)]) (rest := []) (lenOf own_pd6 rfl) rfl (by show 2 * 0 + _ ≤ _; exact own_b rfl) (hb hby at_128) (fun _ _ => ⟨rfl, rfl, (own_b rfl : 20 + 1 ≤ _), (own_b rfl : 43030 + 1 ≤ _)⟩)
        dsimp only [Pt.U, Pt.locs, Pt.cells, Pt.slots] at X166 l166 y166 z166 st166 hQ166
        obtain ⟨a166, rfl, Nq166, K166, Ex166, gv166⟩ := hQ166
        obtain ⟨L166, X166, N166⟩ := own_absC (K := 21) (K' := 43031) X166 l166 y166 z166 N155 Nq166
        have F167 : n0 ≤ T166.heap.size := Nat.le_trans F156 K166.1
        have F168 := Keep.trans F157 K166 all0
        have F169 := Exa.keep F158 K166
        have F170 := Exa.keep F159 K166
        have F171 := Exa.keep F160 K166
        have F172 := Fld.keep F161 K166 nin0
        have F173 := Fld.keep F162 K166 nin0
        have F174 := Exa.keep Ex155 K166
        have F175 := Fld.keep g0_155 K166 nin0
        have F176 := Fld.keep g1_155 K166 nin0
        refine own_go (B := (T166.setTop (mkF m 131 #[iv p0, iv p1, iv p2, rv a1, rv a26, iv (0 : Int32), iv (0 : Int32), iv (2 : Int32), iv p1, rv a130, rv a145, .unset, .unset, .unset] [(.ref a166)]))) st166 ?_
        refine own_go (B := (T166.setTop (mkF m 133 #[iv p0, iv p1, iv p2, rv a1, rv a26, iv (0 : Int32), iv (0 : Int32), iv (2 : Int32), iv p1, rv a130, rv a145, rv a166, .unset, .unset] []))) (fun t k => XS.astore X166.here hx rfl (hb hby at_131) rfl rfl (l' := #[iv p0, iv p1, iv p2, rv a1, rv a26, iv (0 : Int32), iv (0 : Int32), iv (2 : Int32), iv p1, rv a130, rv a145, rv a166, .unset, .unset]) rfl k) ?_
        refine own_go (B := (T166.setTop (mkF m 139 #[iv p0, iv p1, iv p2, rv a1, rv a26, iv (0 : Int32), iv (0 : Int32), iv (2 : Int32), iv p1, rv a130, rv a145, rv a166, .unset, .unset] []))) (fun t k => XS.goto X166.here hx rfl (pc0 := 133) (pc' := 139) rfl (hb hby at_133) (by decide) (by decide) k) ?_
        refine own_go (B := (T166.setTop (mkF m 141 #[iv p0, iv p1, iv p2, rv a1, rv a26, iv (0 : Int32), iv (0 : Int32), iv (2 : Int32), iv p1, rv a130, rv a145, rv a166, .unset, .unset] [(.int (2 : Int32))]))) (fun t k => XS.iload X166.here hx rfl (hb hby at_139) rfl k) ?_
        have hc141 : ¬ (2 : Int32) = (0 : Int32) := (by decide)
        refine own_ifY X166 hx (hb hby at_141) (pc' := 159) (by decide) (by decide) hc141 ?_
        refine own_go (B := (T166.setTop (mkF m 160 #[iv p0, iv p1, iv p2, rv a1, rv a26, iv (0 : Int32), iv (0 : Int32), iv (2 : Int32), iv p1, rv a130, rv a145, rv a166, .unset, .unset] [(.int (0 : Int32))]))) (fun t k => own_iconst (v := (0 : Int32)) X166.here hx rfl (hb hby at_159) (by decide) k) ?_
        refine own_go (B := (T166.setTop (mkF m 162 #[iv p0, iv p1, iv p2, rv a1, rv a26, iv (0 : Int32), iv (0 : Int32), iv (2 : Int32), iv p1, rv a130, rv a145, rv a166, iv (0 : Int32), .unset] []))) (fun t k => XS.istore X166.here hx rfl (hb hby at_160) rfl (l' := #[iv p0, iv p1, iv p2, rv a1, rv a26, iv (0 : Int32), iv (0 : Int32), iv (2 : Int32), iv p1, rv a130, rv a145, rv a166, iv (0 : Int32), .unset]) rfl k) ?_
        refine own_go (B := (T166.setTop (mkF m 164 #[iv p0, iv p1, iv p2, rv a1, rv a26, iv (0 : Int32), iv (0 : Int32), iv (2 : Int32), iv p1, rv a130, rv a145, rv a166, iv (0 : Int32), .unset] [(.ref a130)]))) (fun t k => XS.aload X166.here hx rfl (hb hby at_162) rfl rfl k) ?_
        refine own_go (B := (T166.setTop (mkF m 166 #[iv p0, iv p1, iv p2, rv a1, rv a26, iv (0 : Int32), iv (0 : Int32), iv (2 : Int32), iv p1, rv a130, rv a145, rv a166, iv (0 : Int32), .unset] [(.ref a166), (.ref a130)]))) (fun t k => XS.aload X166.here hx rfl (hb hby at_164) rfl rfl k) ?_
        obtain ⟨cq177, kq177, qa177, qb177, qc177⟩ := isOf hZ rfl F171
        obtain ⟨_, _, ⟨T177, L177, k177, n177⟩, -, X177, ⟨Lc177, hQ177, l177, y177, z177⟩, st177⟩ := X166.virtualBack hx (y := own_y7) (z := own_y7) hown (mvT hZ w_47) (mvT hZ w_48) (notFace_of_selects (args := #[]) (mvT hZ w_50)) (mvT hZ w_50) (mvT hZ w_49) (by decide) (backOf (W := 0) (own_eqint_ l Z a0 hw [] a130 a166 T166.heap n0 Ex166) hZ w_51 w_38 (by decide) (by decide)) qa177 qc177 (g := (mkF m 166 #[iv p0, iv p1, iv p2, rv a1, rv a26, iv (0 : Int32), iv (0 : Int32), iv (2 : Int32), iv p1, rv a130, rv a145, rv a166, iv (0 : Int32), .unset] [(.ref a166), (.ref a130)])) rfl (by rw [hml]; rfl) (Steps.refl _) (argsL := [(.ref a166)]) (rest := []) (lenOf own_pd5 rfl) rfl (by show 2 * 0 + _ ≤ _; exact own_b rfl) (hb hby at_166) (fun _ _ => ⟨rfl, rfl, (own_b rfl : 21 + 0 ≤ _), (own_b rfl : 43031 + 0 ≤ _)⟩)
        dsimp only [Pt.U, Pt.locs, Pt.cells, Pt.slots] at X177 l177 y177 z177 st177 hQ177
        obtain ⟨rfl, Nq177, eq177⟩ := hQ177
        obtain ⟨L177, X177, N177⟩ := own_absC (K := 21) (K' := 43031) X177 l177 y177 z177 N166 Nq177
        have e177 : T177.heap = T166.heap := eq177
        refine own_tr (B := (T177.setTop (mkF m 169 #[iv p0, iv p1, iv p2, rv a1, rv a26, iv (0 : Int32), iv (0 : Int32), iv (2 : Int32), iv p1, rv a130, rv a145, rv a166, iv (0 : Int32), .unset] [(.int (0 : Int32))]))) st177 ?_
        refine own_go (B := (T177.setTop (mkF m 171 #[iv p0, iv p1, iv p2, rv a1, rv a26, iv (0 : Int32), iv (0 : Int32), iv (2 : Int32), iv p1, rv a130, rv a145, rv a166, iv (0 : Int32), iv (0 : Int32)] []))) (fun t k => XS.istore X177.here hx rfl (hb hby at_169) rfl (l' := #[iv p0, iv p1, iv p2, rv a1, rv a26, iv (0 : Int32), iv (0 : Int32), iv (2 : Int32), iv p1, rv a130, rv a145, rv a166, iv (0 : Int32), iv (0 : Int32)]) rfl k) ?_
        refine own_go (B := (T177.setTop (mkF m 173 #[iv p0, iv p1, iv p2, rv a1, rv a26, iv (0 : Int32), iv (0 : Int32), iv (2 : Int32), iv p1, rv a130, rv a145, rv a166, iv (0 : Int32), iv (0 : Int32)] [(.int (0 : Int32))]))) (fun t k => XS.iload X177.here hx rfl (hb hby at_171) rfl k) ?_
        refine own_go (B := (T177.setTop (mkF m 175 #[iv p0, iv p1, iv p2, rv a1, rv a26, iv (0 : Int32), iv (0 : Int32), iv (2 : Int32), iv p1, rv a130, rv a145, rv a166, iv (0 : Int32), iv (0 : Int32)] [(.int (0 : Int32)), (.int (0 : Int32))]))) (fun t k => XS.iload X177.here hx rfl (hb hby at_173) rfl k) ?_
        have hc175 : (0 : Int32) = (0 : Int32) := (by decide)
        refine own_icmpY X177 hx (hb hby at_175) (pc' := 180) (by decide) (by decide) hc175 ?_
        refine own_go (B := (T177.setTop (mkF m 182 #[iv p0, iv p1, iv p2, rv a1, rv a26, iv (0 : Int32), iv (0 : Int32), iv (2 : Int32), iv p1, rv a130, rv a145, rv a166, iv (0 : Int32), iv (0 : Int32)] [(.ref a130)]))) (fun t k => XS.aload X177.here hx rfl (hb hby at_180) rfl rfl k) ?_
        refine own_go (B := (T177.setTop (mkF m 184 #[iv p0, iv p1, iv p2, rv a1, rv a26, iv (0 : Int32), iv (0 : Int32), iv (2 : Int32), iv p1, rv a130, rv a145, rv a166, iv (0 : Int32), iv (0 : Int32)] [(.ref a130), (.ref a130)]))) (fun t k => XS.aload X177.here hx rfl (hb hby at_182) rfl rfl k) ?_
        obtain ⟨cq178, kq178, qa178, qb178, qc178⟩ := isOf hZ e177 F171
        obtain ⟨_, _, ⟨T178, L178, k178, n178⟩, -, X178, ⟨Lc178, hQ178, l178, y178, z178⟩, st178⟩ := X177.virtualBack hx (y := own_y7) (z := own_y7) hown (mvT hZ w_47) (mvT hZ w_48) (notFace_of_selects (args := #[]) (mvT hZ w_50)) (mvT hZ w_50) (mvT hZ w_49) (by decide) (backOf (W := 0) (own_eqT l Z a0 hw [] a130 a130 a1 p0 p0 T166.heap n0 F171 F172 F172 F173 F173 rfl) hZ w_51 w_38 (by decide) (by decide)) qa178 qc178 (g := (mkF m 184 #[iv p0, iv p1, iv p2, rv a1, rv a26, iv (0 : Int32), iv (0 : Int32), iv (2 : Int32), iv p1, rv a130, rv a145, rv a166, iv (0 : Int32), iv (0 : Int32)] [(.ref a130), (.ref a130)])) rfl (by rw [hml]; rfl) (Steps.refl _) (argsL := [(.ref a130)]) (rest := []) (lenOf own_pd5 rfl) rfl (by show 2 * 0 + _ ≤ _; exact own_b rfl) (hb hby at_184) (fun _ _ => ⟨rfl, e177, (own_b rfl : 21 + 0 ≤ _), (own_b rfl : 43031 + 0 ≤ _)⟩)
        dsimp only [Pt.U, Pt.locs, Pt.cells, Pt.slots] at X178 l178 y178 z178 st178 hQ178
        obtain ⟨rfl, Nq178, eq178⟩ := hQ178
        obtain ⟨L178, X178, N178⟩ := own_absC (K := 21) (K' := 43031) X178 l178 y178 z178 N177 Nq178
        have e178 : T178.heap = T166.heap := eq178
        refine own_tr (B := (T178.setTop (mkF m 187 #[iv p0, iv p1, iv p2, rv a1, rv a26, iv (0 : Int32), iv (0 : Int32), iv (2 : Int32), iv p1, rv a130, rv a145, rv a166, iv (0 : Int32), iv (0 : Int32)] [(.int (1 : Int32))]))) st178 ?_
        have hc187 : ¬ (1 : Int32) = (0 : Int32) := (by decide)
        refine own_ifY X178 hx (hb hby at_187) (pc' := 192) (by decide) (by decide) hc187 ?_
        refine own_go (B := (T178.setTop (mkF m 194 #[iv p0, iv p1, iv p2, rv a1, rv a26, iv (0 : Int32), iv (0 : Int32), iv (2 : Int32), iv p1, rv a130, rv a145, rv a166, iv (0 : Int32), iv (0 : Int32)] [(.int (2 : Int32))]))) (fun t k => XS.iload X178.here hx rfl (hb hby at_192) rfl k) ?_
        have hc194 : ¬ (2 : Int32) = (0 : Int32) := (by decide)
        refine own_ifY X178 hx (hb hby at_194) (pc' := 211) (by decide) (by decide) hc194 ?_
        refine own_go (B := (T178.setTop (mkF m 212 #[iv p0, iv p1, iv p2, rv a1, rv a26, iv (0 : Int32), iv (0 : Int32), iv (2 : Int32), iv p1, rv a130, rv a145, rv a166, iv (0 : Int32), iv (0 : Int32)] [(.int (1 : Int32))]))) (fun t k => own_iconst (v := (1 : Int32)) X178.here hx rfl (hb hby at_211) (by decide) k) ?_
        exact own_retZ X178 hx hlk Bd.returns (hb hby at_212) (by decide) (own_b rfl) (own_b rfl) (Q := (own_law_Q Z p0 p1 p2 ca h0 n0)) ⟨rfl, N178⟩
      · refine own_go (B := (T39.setTop (mkF m 54 #[iv p0, iv p1, iv p2, rv a1, rv a26, iv (0 : Int32), iv (0 : Int32), iv (3 : Int32), .unset, .unset, .unset, .unset, .unset, .unset] [(.int (0 : Int32))]))) (fun t k => XS.iload X39.here hx rfl (hb hby at_52) rfl k) ?_
        have hc54 : (0 : Int32) = (0 : Int32) := (by decide)
        refine own_ifY X39 hx (hb hby at_54) (pc' := 61) (by decide) (by decide) hc54 ?_
        refine own_go (B := (T39.setTop (mkF m 62 #[iv p0, iv p1, iv p2, rv a1, rv a26, iv (0 : Int32), iv (0 : Int32), iv (3 : Int32), .unset, .unset, .unset, .unset, .unset, .unset] [(.int p1)]))) (fun t k => XS.iloadN X39.here hx rfl (hb hby at_61) rfl k) ?_
        refine own_go (B := (T39.setTop (mkF m 64 #[iv p0, iv p1, iv p2, rv a1, rv a26, iv (0 : Int32), iv (0 : Int32), iv (3 : Int32), iv p1, .unset, .unset, .unset, .unset, .unset] []))) (fun t k => XS.istore X39.here hx rfl (hb hby at_62) rfl (l' := #[iv p0, iv p1, iv p2, rv a1, rv a26, iv (0 : Int32), iv (0 : Int32), iv (3 : Int32), iv p1, .unset, .unset, .unset, .unset, .unset]) rfl k) ?_
        obtain ⟨T179, h179, X179, e179, E179, A179, D179, U179, st179⟩ := newO X39 hx hZ hown w_36 w_37 w_38 rfl (g := (mkF m 64 #[iv p0, iv p1, iv p2, rv a1, rv a26, iv (0 : Int32), iv (0 : Int32), iv (3 : Int32), iv p1, .unset, .unset, .unset, .unset, .unset] [])) rfl (hb hby at_64) (own_b rfl) (own_b rfl)
        obtain ⟨a179, ga179⟩ : ∃ z, z = T39.heap.size := ⟨_, rfl⟩
        rw [← ga179] at A179 D179 U179 st179
        refine own_go (B := (T179.setTop (mkF m 67 #[iv p0, iv p1, iv p2, rv a1, rv a26, iv (0 : Int32), iv (0 : Int32), iv (3 : Int32), iv p1, .unset, .unset, .unset, .unset, .unset] [(.ref a179)]))) st179 ?_
        have Z180 : n0 ≤ h179.size := Nat.le_trans F40 E179.1
        have K181 := Keep.ext F41 E179
        have F182 := Exa.ext E179 F42
        have F183 := Exa.ext E179 Ex39
        have gn179 : n0 ≤ a179 := Nat.le_trans F40 (Nat.le_of_eq ga179.symm)
        have ne179_a1 : a179 ≠ a1 := fun q => absurd (F42.lt) (by rw [← q, ga179]; exact Nat.lt_irrefl _)
        have ne179_a26 : a179 ≠ a26 := fun q => absurd (Ex39.lt) (by rw [← q, ga179]; exact Nat.lt_irrefl _)
        have F184 : Fld Z h179 a179 "com/example/parts_to_policy/partstopolicy/policy/PacketSet" "bdd" "Lcom/example/parts_to_policy/partstopolicy/policy/Bdd;" .null := D179 (Or.inr w_44) (ty := (.object "com/example/parts_to_policy/partstopolicy/policy/Bdd")) (by decide)
        have F185 : Fld Z h179 a179 "com/example/parts_to_policy/partstopolicy/policy/PacketSet" "node" "I" (.int (0 : Int32)) := D179 (Or.inr w_46) (ty := .int) (by decide)
        refine own_go (B := (T179.setTop (mkF m 68 #[iv p0, iv p1, iv p2, rv a1, rv a26, iv (0 : Int32), iv (0 : Int32), iv (3 : Int32), iv p1, .unset, .unset, .unset, .unset, .unset] [(.ref a179), (.ref a179)]))) (fun t k => XS.dup X179.here hx rfl (hb hby at_67) rfl rfl k) ?_
        refine own_go (B := (T179.setTop (mkF m 69 #[iv p0, iv p1, iv p2, rv a1, rv a26, iv (0 : Int32), iv (0 : Int32), iv (3 : Int32), iv p1, .unset, .unset, .unset, .unset, .unset] [(.ref a1), (.ref a179), (.ref a179)]))) (fun t k => XS.aloadN X179.here hx rfl (hb hby at_68) rfl rfl k) ?_
        refine own_go (B := (T179.setTop (mkF m 70 #[iv p0, iv p1, iv p2, rv a1, rv a26, iv (0 : Int32), iv (0 : Int32), iv (3 : Int32), iv p1, .unset, .unset, .unset, .unset, .unset] [(.int p0), (.ref a1), (.ref a179), (.ref a179)]))) (fun t k => XS.iloadN X179.here hx rfl (hb hby at_69) rfl k) ?_
        obtain ⟨_, _, ⟨T186, L186, k186, n186⟩, -, X186, ⟨Lc186, hQ186, l186, y186, z186⟩, st186⟩ := X179.specialBack hx (y := own_y6) rfl hown (mvT hZ w_39) (mvT hZ w_40) (mvT hZ w_41) (by decide) (backOf (W := 1) (own_pct l Z a0 hw [] a179 a1 p0 h179 n0 Z180 A179 gn179 F184 F185) hZ w_41 w_38 (by decide) (by decide)) (g := (mkF m 70 #[iv p0, iv p1, iv p2, rv a1, rv a26, iv (0 : Int32), iv (0 : Int32), iv (3 : Int32), iv p1, .unset, .unset, .unset, .unset, .unset] [(.int p0), (.ref a1), (.ref a179), (.ref a179)])) rfl (by rw [hml]; rfl) (Steps.refl _) (a := a179) (argsL := [(.ref a1), (.int p0)]) (rest := [(.ref a179)]) (lenOf own_pd4 rfl) rfl (by show 2 * 0 + _ ≤ _; exact own_b rfl) (hb hby at_70) (fun _ _ => ⟨rfl, e179, (own_b rfl : 19 + 0 ≤ _), (own_b rfl : 43028 + 0 ≤ _)⟩)
        dsimp only [Pt.U, Pt.locs, Pt.cells, Pt.slots] at X186 l186 y186 z186 st186 hQ186
        obtain ⟨rfl, Nq186, K186, Ex186, g0_186, g1_186⟩ := hQ186
        obtain ⟨L186, X186, N186⟩ := own_absC (K := 19) (K' := 43028) X186 l186 y186 z186 N39 Nq186
        have F187 : n0 ≤ T186.heap.size := Nat.le_trans Z180 K186.1
        have F188 := Keep.trans K181 K186 (allS (Or.inr (Nat.le_trans F41.1 (Nat.le_of_eq ga179.symm))) all0)
        have F189 := Exa.keep F182 K186
        have F190 := Exa.keep F183 K186
        have F191 := Exa.keep A179 K186
        refine own_tr (B := (T186.setTop (mkF m 73 #[iv p0, iv p1, iv p2, rv a1, rv a26, iv (0 : Int32), iv (0 : Int32), iv (3 : Int32), iv p1, .unset, .unset, .unset, .unset, .unset] [(.ref a179)]))) st186 ?_
        refine own_go (B := (T186.setTop (mkF m 75 #[iv p0, iv p1, iv p2, rv a1, rv a26, iv (0 : Int32), iv (0 : Int32), iv (3 : Int32), iv p1, rv a179, .unset, .unset, .unset, .unset] []))) (fun t k => XS.astore X186.here hx rfl (hb hby at_73) rfl rfl (l' := #[iv p0, iv p1, iv p2, rv a1, rv a26, iv (0 : Int32), iv (0 : Int32), iv (3 : Int32), iv p1, rv a179, .unset, .unset, .unset, .unset]) rfl k) ?_
        obtain ⟨T194, h194, X194, e194, E194, A194, D194, U194, st194⟩ := newO X186 hx hZ hown w_36 w_37 w_38 rfl (g := (mkF m 75 #[iv p0, iv p1, iv p2, rv a1, rv a26, iv (0 : Int32), iv (0 : Int32), iv (3 : Int32), iv p1, rv a179, .unset, .unset, .unset, .unset] [])) rfl (hb hby at_75) (own_b rfl) (own_b rfl)
        obtain ⟨a194, ga194⟩ : ∃ z, z = T186.heap.size := ⟨_, rfl⟩
        rw [← ga194] at A194 D194 U194 st194
        refine own_go (B := (T194.setTop (mkF m 78 #[iv p0, iv p1, iv p2, rv a1, rv a26, iv (0 : Int32), iv (0 : Int32), iv (3 : Int32), iv p1, rv a179, .unset, .unset, .unset, .unset] [(.ref a194)]))) st194 ?_
        have Z195 : n0 ≤ h194.size := Nat.le_trans F187 E194.1
        have K196 := Keep.ext F188 E194
        have F197 := Exa.ext E194 F189
        have F198 := Exa.ext E194 F190
        have F199 := Exa.ext E194 Ex186
        have F200 := Fld.ext E194 g0_186
        have F201 := Fld.ext E194 g1_186
        have gn194 : n0 ≤ a194 := Nat.le_trans F187 (Nat.le_of_eq ga194.symm)
        have ne194_a1 : a194 ≠ a1 := fun q => absurd (F189.lt) (by rw [← q, ga194]; exact Nat.lt_irrefl _)
        have ne194_a26 : a194 ≠ a26 := fun q => absurd (F190.lt) (by rw [← q, ga194]; exact Nat.lt_irrefl _)
        have ne194_a179 : a194 ≠ a179 := fun q => absurd (Ex186.lt) (by rw [← q, ga194]; exact Nat.lt_irrefl _)
        have F202 : Fld Z h194 a194 "com/example/parts_to_policy/partstopolicy/policy/PacketSet" "bdd" "Lcom/example/parts_to_policy/partstopolicy/policy/Bdd;" .null := D194 (Or.inr w_44) (ty := (.object "com/example/parts_to_policy/partstopolicy/policy/Bdd")) (by decide)
        have F203 : Fld Z h194 a194 "com/example/parts_to_policy/partstopolicy/policy/PacketSet" "node" "I" (.int (0 : Int32)) := D194 (Or.inr w_46) (ty := .int) (by decide)
        refine own_go (B := (T194.setTop (mkF m 79 #[iv p0, iv p1, iv p2, rv a1, rv a26, iv (0 : Int32), iv (0 : Int32), iv (3 : Int32), iv p1, rv a179, .unset, .unset, .unset, .unset] [(.ref a194), (.ref a194)]))) (fun t k => XS.dup X194.here hx rfl (hb hby at_78) rfl rfl k) ?_
        refine own_go (B := (T194.setTop (mkF m 81 #[iv p0, iv p1, iv p2, rv a1, rv a26, iv (0 : Int32), iv (0 : Int32), iv (3 : Int32), iv p1, rv a179, .unset, .unset, .unset, .unset] [(.int (0 : Int32)), (.ref a194), (.ref a194)]))) (fun t k => XS.iload X194.here hx rfl (hb hby at_79) rfl k) ?_
        have hc81 : (0 : Int32) = (0 : Int32) := (by decide)
        refine own_ifY X194 hx (hb hby at_81) (pc' := 88) (by decide) (by decide) hc81 ?_
        refine own_go (B := (T194.setTop (mkF m 90 #[iv p0, iv p1, iv p2, rv a1, rv a26, iv (0 : Int32), iv (0 : Int32), iv (3 : Int32), iv p1, rv a179, .unset, .unset, .unset, .unset] [(.ref a26), (.ref a194), (.ref a194)]))) (fun t k => XS.aload X194.here hx rfl (hb hby at_88) rfl rfl k) ?_
        refine own_go (B := (T194.setTop (mkF m 92 #[iv p0, iv p1, iv p2, rv a1, rv a26, iv (0 : Int32), iv (0 : Int32), iv (3 : Int32), iv p1, rv a179, .unset, .unset, .unset, .unset] [(.int p1), (.ref a26), (.ref a194), (.ref a194)]))) (fun t k => XS.iload X194.here hx rfl (hb hby at_90) rfl k) ?_
        obtain ⟨_, _, ⟨T204, L204, k204, n204⟩, -, X204, ⟨Lc204, hQ204, l204, y204, z204⟩, st204⟩ := X194.specialBack hx (y := own_y6) rfl hown (mvT hZ w_39) (mvT hZ w_40) (mvT hZ w_41) (by decide) (backOf (W := 1) (own_pct l Z a0 hw [] a194 a26 p1 h194 n0 Z195 A194 gn194 F202 F203) hZ w_41 w_38 (by decide) (by decide)) (g := (mkF m 92 #[iv p0, iv p1, iv p2, rv a1, rv a26, iv (0 : Int32), iv (0 : Int32), iv (3 : Int32), iv p1, rv a179, .unset, .unset, .unset, .unset] [(.int p1), (.ref a26), (.ref a194), (.ref a194)])) rfl (by rw [hml]; rfl) (Steps.refl _) (a := a194) (argsL := [(.ref a26), (.int p1)]) (rest := [(.ref a194)]) (lenOf own_pd4 rfl) rfl (by show 2 * 0 + _ ≤ _; exact own_b rfl) (hb hby at_92) (fun _ _ => ⟨rfl, e194, (own_b rfl : 20 + 0 ≤ _), (own_b rfl : 43030 + 0 ≤ _)⟩)
        dsimp only [Pt.U, Pt.locs, Pt.cells, Pt.slots] at X204 l204 y204 z204 st204 hQ204
        obtain ⟨rfl, Nq204, K204, Ex204, g0_204, g1_204⟩ := hQ204
        obtain ⟨L204, X204, N204⟩ := own_absC (K := 20) (K' := 43030) X204 l204 y204 z204 N186 Nq204
        have F205 : n0 ≤ T204.heap.size := Nat.le_trans Z195 K204.1
        have F206 := Keep.trans K196 K204 (allS (Or.inr (Nat.le_trans F188.1 (Nat.le_of_eq ga194.symm))) all0)
        have F207 := Exa.keep F197 K204
        have F208 := Exa.keep F198 K204
        have F209 := Exa.keep F199 K204
        have F210 := Fld.keep F200 K204 (ninS (Ne.symm ne194_a179) nin0)
        have F211 := Fld.keep F201 K204 (ninS (Ne.symm ne194_a179) nin0)
        have F212 := Exa.keep A194 K204
        refine own_tr (B := (T204.setTop (mkF m 95 #[iv p0, iv p1, iv p2, rv a1, rv a26, iv (0 : Int32), iv (0 : Int32), iv (3 : Int32), iv p1, rv a179, .unset, .unset, .unset, .unset] [(.ref a194)]))) st204 ?_
        refine own_go (B := (T204.setTop (mkF m 97 #[iv p0, iv p1, iv p2, rv a1, rv a26, iv (0 : Int32), iv (0 : Int32), iv (3 : Int32), iv p1, rv a179, rv a194, .unset, .unset, .unset] []))) (fun t k => XS.astore X204.here hx rfl (hb hby at_95) rfl rfl (l' := #[iv p0, iv p1, iv p2, rv a1, rv a26, iv (0 : Int32), iv (0 : Int32), iv (3 : Int32), iv p1, rv a179, rv a194, .unset, .unset, .unset]) rfl k) ?_
        refine own_go (B := (T204.setTop (mkF m 99 #[iv p0, iv p1, iv p2, rv a1, rv a26, iv (0 : Int32), iv (0 : Int32), iv (3 : Int32), iv p1, rv a179, rv a194, .unset, .unset, .unset] [(.int (3 : Int32))]))) (fun t k => XS.iload X204.here hx rfl (hb hby at_97) rfl k) ?_
        have hc99 : ¬ (3 : Int32) = (0 : Int32) := (by decide)
        refine own_ifY X204 hx (hb hby at_99) (pc' := 109) (by decide) (by decide) hc99 ?_
        refine own_go (B := (T204.setTop (mkF m 111 #[iv p0, iv p1, iv p2, rv a1, rv a26, iv (0 : Int32), iv (0 : Int32), iv (3 : Int32), iv p1, rv a179, rv a194, .unset, .unset, .unset] [(.int (3 : Int32))]))) (fun t k => XS.iload X204.here hx rfl (hb hby at_109) rfl k) ?_
        refine own_go (B := (T204.setTop (mkF m 112 #[iv p0, iv p1, iv p2, rv a1, rv a26, iv (0 : Int32), iv (0 : Int32), iv (3 : Int32), iv p1, rv a179, rv a194, .unset, .unset, .unset] [(.int (1 : Int32)), (.int (3 : Int32))]))) (fun t k => own_iconst (v := (1 : Int32)) X204.here hx rfl (hb hby at_111) (by decide) k) ?_
        have hc112 : ¬ (3 : Int32) = (1 : Int32) := (by decide)
        refine own_icmpY X204 hx (hb hby at_112) (pc' := 121) (by decide) (by decide) hc112 ?_
        refine own_go (B := (T204.setTop (mkF m 123 #[iv p0, iv p1, iv p2, rv a1, rv a26, iv (0 : Int32), iv (0 : Int32), iv (3 : Int32), iv p1, rv a179, rv a194, .unset, .unset, .unset] [(.int (3 : Int32))]))) (fun t k => XS.iload X204.here hx rfl (hb hby at_121) rfl k) ?_
        refine own_go (B := (T204.setTop (mkF m 124 #[iv p0, iv p1, iv p2, rv a1, rv a26, iv (0 : Int32), iv (0 : Int32), iv (3 : Int32), iv p1, rv a179, rv a194, .unset, .unset, .unset] [(.int (2 : Int32)), (.int (3 : Int32))]))) (fun t k => own_iconst (v := (2 : Int32)) X204.here hx rfl (hb hby at_123) (by decide) k) ?_
        have hc124 : ¬ (3 : Int32) = (2 : Int32) := (by decide)
        refine own_icmpY X204 hx (hb hby at_124) (pc' := 136) (by decide) (by decide) hc124 ?_
        refine own_go (B := (T204.setTop (mkF m 137 #[iv p0, iv p1, iv p2, rv a1, rv a26, iv (0 : Int32), iv (0 : Int32), iv (3 : Int32), iv p1, rv a179, rv a194, .unset, .unset, .unset] [(.ref a1)]))) (fun t k => XS.aloadN X204.here hx rfl (hb hby at_136) rfl rfl k) ?_
        refine own_go (B := (T204.setTop (mkF m 139 #[iv p0, iv p1, iv p2, rv a1, rv a26, iv (0 : Int32), iv (0 : Int32), iv (3 : Int32), iv p1, rv a179, rv a194, rv a1, .unset, .unset] []))) (fun t k => XS.astore X204.here hx rfl (hb hby at_137) rfl rfl (l' := #[iv p0, iv p1, iv p2, rv a1, rv a26, iv (0 : Int32), iv (0 : Int32), iv (3 : Int32), iv p1, rv a179, rv a194, rv a1, .unset, .unset]) rfl k) ?_
        refine own_go (B := (T204.setTop (mkF m 141 #[iv p0, iv p1, iv p2, rv a1, rv a26, iv (0 : Int32), iv (0 : Int32), iv (3 : Int32), iv p1, rv a179, rv a194, rv a1, .unset, .unset] [(.int (3 : Int32))]))) (fun t k => XS.iload X204.here hx rfl (hb hby at_139) rfl k) ?_
        have hc141 : ¬ (3 : Int32) = (0 : Int32) := (by decide)
        refine own_ifY X204 hx (hb hby at_141) (pc' := 159) (by decide) (by decide) hc141 ?_
        refine own_go (B := (T204.setTop (mkF m 160 #[iv p0, iv p1, iv p2, rv a1, rv a26, iv (0 : Int32), iv (0 : Int32), iv (3 : Int32), iv p1, rv a179, rv a194, rv a1, .unset, .unset] [(.int (0 : Int32))]))) (fun t k => own_iconst (v := (0 : Int32)) X204.here hx rfl (hb hby at_159) (by decide) k) ?_
        refine own_go (B := (T204.setTop (mkF m 162 #[iv p0, iv p1, iv p2, rv a1, rv a26, iv (0 : Int32), iv (0 : Int32), iv (3 : Int32), iv p1, rv a179, rv a194, rv a1, iv (0 : Int32), .unset] []))) (fun t k => XS.istore X204.here hx rfl (hb hby at_160) rfl (l' := #[iv p0, iv p1, iv p2, rv a1, rv a26, iv (0 : Int32), iv (0 : Int32), iv (3 : Int32), iv p1, rv a179, rv a194, rv a1, iv (0 : Int32), .unset]) rfl k) ?_
        refine own_go (B := (T204.setTop (mkF m 164 #[iv p0, iv p1, iv p2, rv a1, rv a26, iv (0 : Int32), iv (0 : Int32), iv (3 : Int32), iv p1, rv a179, rv a194, rv a1, iv (0 : Int32), .unset] [(.ref a179)]))) (fun t k => XS.aload X204.here hx rfl (hb hby at_162) rfl rfl k) ?_
        refine own_go (B := (T204.setTop (mkF m 166 #[iv p0, iv p1, iv p2, rv a1, rv a26, iv (0 : Int32), iv (0 : Int32), iv (3 : Int32), iv p1, rv a179, rv a194, rv a1, iv (0 : Int32), .unset] [(.ref a1), (.ref a179)]))) (fun t k => XS.aload X204.here hx rfl (hb hby at_164) rfl rfl k) ?_
        obtain ⟨cq215, kq215, qa215, qb215, qc215⟩ := isOf hZ rfl F209
        obtain ⟨_, _, ⟨T215, L215, k215, n215⟩, -, X215, ⟨Lc215, hQ215, l215, y215, z215⟩, st215⟩ := X204.virtualBack hx (y := own_y7) (z := own_y7) hown (mvT hZ w_47) (mvT hZ w_48) (notFace_of_selects (args := #[]) (mvT hZ w_50)) (mvT hZ w_50) (mvT hZ w_49) (by decide) (backOf (W := 0) (own_eqbdd l Z a0 hw [] a179 a1 T204.heap n0 F207) hZ w_51 w_38 (by decide) (by decide)) qa215 qc215 (g := (mkF m 166 #[iv p0, iv p1, iv p2, rv a1, rv a26, iv (0 : Int32), iv (0 : Int32), iv (3 : Int32), iv p1, rv a179, rv a194, rv a1, iv (0 : Int32), .unset] [(.ref a1), (.ref a179)])) rfl (by rw [hml]; rfl) (Steps.refl _) (argsL := [(.ref a1)]) (rest := []) (lenOf own_pd5 rfl) rfl (by show 2 * 0 + _ ≤ _; exact own_b rfl) (hb hby at_166) (fun _ _ => ⟨rfl, rfl, (own_b rfl : 20 + 0 ≤ _), (own_b rfl : 43030 + 0 ≤ _)⟩)
        dsimp only [Pt.U, Pt.locs, Pt.cells, Pt.slots] at X215 l215 y215 z215 st215 hQ215
        obtain ⟨rfl, Nq215, eq215⟩ := hQ215
        obtain ⟨L215, X215, N215⟩ := own_absC (K := 20) (K' := 43030) X215 l215 y215 z215 N204 Nq215
        have e215 : T215.heap = T204.heap := eq215
        refine own_tr (B := (T215.setTop (mkF m 169 #[iv p0, iv p1, iv p2, rv a1, rv a26, iv (0 : Int32), iv (0 : Int32), iv (3 : Int32), iv p1, rv a179, rv a194, rv a1, iv (0 : Int32), .unset] [(.int (0 : Int32))]))) st215 ?_
        refine own_go (B := (T215.setTop (mkF m 171 #[iv p0, iv p1, iv p2, rv a1, rv a26, iv (0 : Int32), iv (0 : Int32), iv (3 : Int32), iv p1, rv a179, rv a194, rv a1, iv (0 : Int32), iv (0 : Int32)] []))) (fun t k => XS.istore X215.here hx rfl (hb hby at_169) rfl (l' := #[iv p0, iv p1, iv p2, rv a1, rv a26, iv (0 : Int32), iv (0 : Int32), iv (3 : Int32), iv p1, rv a179, rv a194, rv a1, iv (0 : Int32), iv (0 : Int32)]) rfl k) ?_
        refine own_go (B := (T215.setTop (mkF m 173 #[iv p0, iv p1, iv p2, rv a1, rv a26, iv (0 : Int32), iv (0 : Int32), iv (3 : Int32), iv p1, rv a179, rv a194, rv a1, iv (0 : Int32), iv (0 : Int32)] [(.int (0 : Int32))]))) (fun t k => XS.iload X215.here hx rfl (hb hby at_171) rfl k) ?_
        refine own_go (B := (T215.setTop (mkF m 175 #[iv p0, iv p1, iv p2, rv a1, rv a26, iv (0 : Int32), iv (0 : Int32), iv (3 : Int32), iv p1, rv a179, rv a194, rv a1, iv (0 : Int32), iv (0 : Int32)] [(.int (0 : Int32)), (.int (0 : Int32))]))) (fun t k => XS.iload X215.here hx rfl (hb hby at_173) rfl k) ?_
        have hc175 : (0 : Int32) = (0 : Int32) := (by decide)
        refine own_icmpY X215 hx (hb hby at_175) (pc' := 180) (by decide) (by decide) hc175 ?_
        refine own_go (B := (T215.setTop (mkF m 182 #[iv p0, iv p1, iv p2, rv a1, rv a26, iv (0 : Int32), iv (0 : Int32), iv (3 : Int32), iv p1, rv a179, rv a194, rv a1, iv (0 : Int32), iv (0 : Int32)] [(.ref a179)]))) (fun t k => XS.aload X215.here hx rfl (hb hby at_180) rfl rfl k) ?_
        refine own_go (B := (T215.setTop (mkF m 184 #[iv p0, iv p1, iv p2, rv a1, rv a26, iv (0 : Int32), iv (0 : Int32), iv (3 : Int32), iv p1, rv a179, rv a194, rv a1, iv (0 : Int32), iv (0 : Int32)] [(.ref a179), (.ref a179)]))) (fun t k => XS.aload X215.here hx rfl (hb hby at_182) rfl rfl k) ?_
        obtain ⟨cq216, kq216, qa216, qb216, qc216⟩ := isOf hZ e215 F209
        obtain ⟨_, _, ⟨T216, L216, k216, n216⟩, -, X216, ⟨Lc216, hQ216, l216, y216, z216⟩, st216⟩ := X215.virtualBack hx (y := own_y7) (z := own_y7) hown (mvT hZ w_47) (mvT hZ w_48) (notFace_of_selects (args := #[]) (mvT hZ w_50)) (mvT hZ w_50) (mvT hZ w_49) (by decide) (backOf (W := 0) (own_eqT l Z a0 hw [] a179 a179 a1 p0 p0 T204.heap n0 F209 F210 F210 F211 F211 rfl) hZ w_51 w_38 (by decide) (by decide)) qa216 qc216 (g := (mkF m 184 #[iv p0, iv p1, iv p2, rv a1, rv a26, iv (0 : Int32), iv (0 : Int32), iv (3 : Int32), iv p1, rv a179, rv a194, rv a1, iv (0 : Int32), iv (0 : Int32)] [(.ref a179), (.ref a179)])) rfl (by rw [hml]; rfl) (Steps.refl _) (argsL := [(.ref a179)]) (rest := []) (lenOf own_pd5 rfl) rfl (by show 2 * 0 + _ ≤ _; exact own_b rfl) (hb hby at_184) (fun _ _ => ⟨rfl, e215, (own_b rfl : 20 + 0 ≤ _), (own_b rfl : 43030 + 0 ≤ _)⟩)
        dsimp only [Pt.U, Pt.locs, Pt.cells, Pt.slots] at X216 l216 y216 z216 st216 hQ216
        obtain ⟨rfl, Nq216, eq216⟩ := hQ216
        obtain ⟨L216, X216, N216⟩ := own_absC (K := 20) (K' := 43030) X216 l216 y216 z216 N215 Nq216
        have e216 : T216.heap = T204.heap := eq216
        refine own_tr (B := (T216.setTop (mkF m 187 #[iv p0, iv p1, iv p2, rv a1, rv a26, iv (0 : Int32), iv (0 : Int32), iv (3 : Int32), iv p1, rv a179, rv a194, rv a1, iv (0 : Int32), iv (0 : Int32)] [(.int (1 : Int32))]))) st216 ?_
        have hc187 : ¬ (1 : Int32) = (0 : Int32) := (by decide)
        refine own_ifY X216 hx (hb hby at_187) (pc' := 192) (by decide) (by decide) hc187 ?_
        refine own_go (B := (T216.setTop (mkF m 194 #[iv p0, iv p1, iv p2, rv a1, rv a26, iv (0 : Int32), iv (0 : Int32), iv (3 : Int32), iv p1, rv a179, rv a194, rv a1, iv (0 : Int32), iv (0 : Int32)] [(.int (3 : Int32))]))) (fun t k => XS.iload X216.here hx rfl (hb hby at_192) rfl k) ?_
        have hc194 : ¬ (3 : Int32) = (0 : Int32) := (by decide)
        refine own_ifY X216 hx (hb hby at_194) (pc' := 211) (by decide) (by decide) hc194 ?_
        refine own_go (B := (T216.setTop (mkF m 212 #[iv p0, iv p1, iv p2, rv a1, rv a26, iv (0 : Int32), iv (0 : Int32), iv (3 : Int32), iv p1, rv a179, rv a194, rv a1, iv (0 : Int32), iv (0 : Int32)] [(.int (1 : Int32))]))) (fun t k => own_iconst (v := (1 : Int32)) X216.here hx rfl (hb hby at_211) (by decide) k) ?_
        exact own_retZ X216 hx hlk Bd.returns (hb hby at_212) (by decide) (own_b rfl) (own_b rfl) (Q := (own_law_Q Z p0 p1 p2 ca h0 n0)) ⟨rfl, N216⟩
    · refine own_go (B := (T39.setTop (mkF m 39 #[iv p0, iv p1, iv p2, rv a1, rv a26, iv (0 : Int32), .unset, .unset, .unset, .unset, .unset, .unset, .unset, .unset] [(.int (1 : Int32))]))) (fun t k => own_iconst (v := (1 : Int32)) X39.here hx rfl (hb hby at_38) (by decide) k) ?_
      refine own_go (B := (T39.setTop (mkF m 43 #[iv p0, iv p1, iv p2, rv a1, rv a26, iv (0 : Int32), .unset, .unset, .unset, .unset, .unset, .unset, .unset, .unset] [(.int (1 : Int32))]))) (fun t k => XS.goto X39.here hx rfl (pc0 := 39) (pc' := 43) rfl (hb hby at_39) (by decide) (by decide) k) ?_
      refine own_go (B := (T39.setTop (mkF m 45 #[iv p0, iv p1, iv p2, rv a1, rv a26, iv (0 : Int32), iv (1 : Int32), .unset, .unset, .unset, .unset, .unset, .unset, .unset] []))) (fun t k => XS.istore X39.here hx rfl (hb hby at_43) rfl (l' := #[iv p0, iv p1, iv p2, rv a1, rv a26, iv (0 : Int32), iv (1 : Int32), .unset, .unset, .unset, .unset, .unset, .unset, .unset]) rfl k) ?_
      refine own_go (B := (T39.setTop (mkF m 46 #[iv p0, iv p1, iv p2, rv a1, rv a26, iv (0 : Int32), iv (1 : Int32), .unset, .unset, .unset, .unset, .unset, .unset, .unset] [(.int p2)]))) (fun t k => XS.iloadN X39.here hx rfl (hb hby at_45) rfl k) ?_
      refine own_go (B := (T39.setTop (mkF m 47 #[iv p0, iv p1, iv p2, rv a1, rv a26, iv (0 : Int32), iv (1 : Int32), .unset, .unset, .unset, .unset, .unset, .unset, .unset] [(.int (2 : Int32)), (.int p2)]))) (fun t k => own_iconst (v := (2 : Int32)) X39.here hx rfl (hb hby at_46) (by decide) k) ?_
      refine own_go (B := (T39.setTop (mkF m 48 #[iv p0, iv p1, iv p2, rv a1, rv a26, iv (0 : Int32), iv (1 : Int32), .unset, .unset, .unset, .unset, .unset, .unset, .unset] [(.int ((p2.toUInt32 >>> ((2 : Int32) &&& 31).toUInt32).toInt32))]))) (fun t k => XS.iushr (x := p2) (y := (2 : Int32)) X39.here hx rfl (hb hby at_47) rfl k) ?_
      refine own_go (B := (T39.setTop (mkF m 49 #[iv p0, iv p1, iv p2, rv a1, rv a26, iv (0 : Int32), iv (1 : Int32), .unset, .unset, .unset, .unset, .unset, .unset, .unset] [(.int (3 : Int32)), (.int ((p2.toUInt32 >>> ((2 : Int32) &&& 31).toUInt32).toInt32))]))) (fun t k => own_iconst (v := (3 : Int32)) X39.here hx rfl (hb hby at_48) (by decide) k) ?_
      refine own_go (B := (T39.setTop (mkF m 50 #[iv p0, iv p1, iv p2, rv a1, rv a26, iv (0 : Int32), iv (1 : Int32), .unset, .unset, .unset, .unset, .unset, .unset, .unset] [(.int (((p2.toUInt32 >>> ((2 : Int32) &&& 31).toUInt32).toInt32) &&& (3 : Int32)))]))) (fun t k => XS.iand (x := ((p2.toUInt32 >>> ((2 : Int32) &&& 31).toUInt32).toInt32)) (y := (3 : Int32)) X39.here hx rfl (hb hby at_49) rfl k) ?_
      obtain ⟨z50, hz50⟩ : ∃ z : Int32, z = (((p2.toUInt32 >>> ((2 : Int32) &&& 31).toUInt32).toInt32) &&& (3 : Int32)) := ⟨_, rfl⟩
      rw [← hz50]
      refine own_go (B := (T39.setTop (mkF m 52 #[iv p0, iv p1, iv p2, rv a1, rv a26, iv (0 : Int32), iv (1 : Int32), iv z50, .unset, .unset, .unset, .unset, .unset, .unset] []))) (fun t k => XS.istore X39.here hx rfl (hb hby at_50) rfl (l' := #[iv p0, iv p1, iv p2, rv a1, rv a26, iv (0 : Int32), iv (1 : Int32), iv z50, .unset, .unset, .unset, .unset, .unset, .unset]) rfl k) ?_
      rcases own_c4 hz50 with rfl | rfl | rfl | rfl
      · refine own_go (B := (T39.setTop (mkF m 54 #[iv p0, iv p1, iv p2, rv a1, rv a26, iv (0 : Int32), iv (1 : Int32), iv (0 : Int32), .unset, .unset, .unset, .unset, .unset, .unset] [(.int (1 : Int32))]))) (fun t k => XS.iload X39.here hx rfl (hb hby at_52) rfl k) ?_
        have hc54 : ¬ (1 : Int32) = (0 : Int32) := (by decide)
        refine own_ifN X39 hx (hb hby at_54) (pn := 57) rfl hc54 ?_
        refine own_go (B := (T39.setTop (mkF m 58 #[iv p0, iv p1, iv p2, rv a1, rv a26, iv (0 : Int32), iv (1 : Int32), iv (0 : Int32), .unset, .unset, .unset, .unset, .unset, .unset] [(.int p0)]))) (fun t k => XS.iloadN X39.here hx rfl (hb hby at_57) rfl k) ?_
        refine own_go (B := (T39.setTop (mkF m 62 #[iv p0, iv p1, iv p2, rv a1, rv a26, iv (0 : Int32), iv (1 : Int32), iv (0 : Int32), .unset, .unset, .unset, .unset, .unset, .unset] [(.int p0)]))) (fun t k => XS.goto X39.here hx rfl (pc0 := 58) (pc' := 62) rfl (hb hby at_58) (by decide) (by decide) k) ?_
        refine own_go (B := (T39.setTop (mkF m 64 #[iv p0, iv p1, iv p2, rv a1, rv a26, iv (0 : Int32), iv (1 : Int32), iv (0 : Int32), iv p0, .unset, .unset, .unset, .unset, .unset] []))) (fun t k => XS.istore X39.here hx rfl (hb hby at_62) rfl (l' := #[iv p0, iv p1, iv p2, rv a1, rv a26, iv (0 : Int32), iv (1 : Int32), iv (0 : Int32), iv p0, .unset, .unset, .unset, .unset, .unset]) rfl k) ?_
        obtain ⟨T217, h217, X217, e217, E217, A217, D217, U217, st217⟩ := newO X39 hx hZ hown w_36 w_37 w_38 rfl (g := (mkF m 64 #[iv p0, iv p1, iv p2, rv a1, rv a26, iv (0 : Int32), iv (1 : Int32), iv (0 : Int32), iv p0, .unset, .unset, .unset, .unset, .unset] [])) rfl (hb hby at_64) (own_b rfl) (own_b rfl)
        obtain ⟨a217, ga217⟩ : ∃ z, z = T39.heap.size := ⟨_, rfl⟩
        rw [← ga217] at A217 D217 U217 st217
        refine own_go (B := (T217.setTop (mkF m 67 #[iv p0, iv p1, iv p2, rv a1, rv a26, iv (0 : Int32), iv (1 : Int32), iv (0 : Int32), iv p0, .unset, .unset, .unset, .unset, .unset] [(.ref a217)]))) st217 ?_
        have Z218 : n0 ≤ h217.size := Nat.le_trans F40 E217.1
        have K219 := Keep.ext F41 E217
        have F220 := Exa.ext E217 F42
        have F221 := Exa.ext E217 Ex39
        have gn217 : n0 ≤ a217 := Nat.le_trans F40 (Nat.le_of_eq ga217.symm)
        have ne217_a1 : a217 ≠ a1 := fun q => absurd (F42.lt) (by rw [← q, ga217]; exact Nat.lt_irrefl _)
        have ne217_a26 : a217 ≠ a26 := fun q => absurd (Ex39.lt) (by rw [← q, ga217]; exact Nat.lt_irrefl _)
        have F222 : Fld Z h217 a217 "com/example/parts_to_policy/partstopolicy/policy/PacketSet" "bdd" "Lcom/example/parts_to_policy/partstopolicy/policy/Bdd;" .null := D217 (Or.inr w_44) (ty := (.object "com/example/parts_to_policy/partstopolicy/policy/Bdd")) (by decide)
        have F223 : Fld Z h217 a217 "com/example/parts_to_policy/partstopolicy/policy/PacketSet" "node" "I" (.int (0 : Int32)) := D217 (Or.inr w_46) (ty := .int) (by decide)
        refine own_go (B := (T217.setTop (mkF m 68 #[iv p0, iv p1, iv p2, rv a1, rv a26, iv (0 : Int32), iv (1 : Int32), iv (0 : Int32), iv p0, .unset, .unset, .unset, .unset, .unset] [(.ref a217), (.ref a217)]))) (fun t k => XS.dup X217.here hx rfl (hb hby at_67) rfl rfl k) ?_
        refine own_go (B := (T217.setTop (mkF m 69 #[iv p0, iv p1, iv p2, rv a1, rv a26, iv (0 : Int32), iv (1 : Int32), iv (0 : Int32), iv p0, .unset, .unset, .unset, .unset, .unset] [(.ref a1), (.ref a217), (.ref a217)]))) (fun t k => XS.aloadN X217.here hx rfl (hb hby at_68) rfl rfl k) ?_
        refine own_go (B := (T217.setTop (mkF m 70 #[iv p0, iv p1, iv p2, rv a1, rv a26, iv (0 : Int32), iv (1 : Int32), iv (0 : Int32), iv p0, .unset, .unset, .unset, .unset, .unset] [(.int p0), (.ref a1), (.ref a217), (.ref a217)]))) (fun t k => XS.iloadN X217.here hx rfl (hb hby at_69) rfl k) ?_
        obtain ⟨_, _, ⟨T224, L224, k224, n224⟩, -, X224, ⟨Lc224, hQ224, l224, y224, z224⟩, st224⟩ := X217.specialBack hx (y := own_y6) rfl hown (mvT hZ w_39) (mvT hZ w_40) (mvT hZ w_41) (by decide) (backOf (W := 1) (own_pct l Z a0 hw [] a217 a1 p0 h217 n0 Z218 A217 gn217 F222 F223) hZ w_41 w_38 (by decide) (by decide)) (g := (mkF m 70 #[iv p0, iv p1, iv p2, rv a1, rv a26, iv (0 : Int32), iv (1 : Int32), iv (0 : Int32), iv p0, .unset, .unset, .unset, .unset, .unset] [(.int p0), (.ref a1), (.ref a217), (.ref a217)])) rfl (by rw [hml]; rfl) (Steps.refl _) (a := a217) (argsL := [(.ref a1), (.int p0)]) (rest := [(.ref a217)]) (lenOf own_pd4 rfl) rfl (by show 2 * 0 + _ ≤ _; exact own_b rfl) (hb hby at_70) (fun _ _ => ⟨rfl, e217, (own_b rfl : 19 + 0 ≤ _), (own_b rfl : 43028 + 0 ≤ _)⟩)
        dsimp only [Pt.U, Pt.locs, Pt.cells, Pt.slots] at X224 l224 y224 z224 st224 hQ224
        obtain ⟨rfl, Nq224, K224, Ex224, g0_224, g1_224⟩ := hQ224
        obtain ⟨L224, X224, N224⟩ := own_absC (K := 19) (K' := 43028) X224 l224 y224 z224 N39 Nq224
        have F225 : n0 ≤ T224.heap.size := Nat.le_trans Z218 K224.1
        have F226 := Keep.trans K219 K224 (allS (Or.inr (Nat.le_trans F41.1 (Nat.le_of_eq ga217.symm))) all0)
        have F227 := Exa.keep F220 K224
        have F228 := Exa.keep F221 K224
        have F229 := Exa.keep A217 K224
        refine own_tr (B := (T224.setTop (mkF m 73 #[iv p0, iv p1, iv p2, rv a1, rv a26, iv (0 : Int32), iv (1 : Int32), iv (0 : Int32), iv p0, .unset, .unset, .unset, .unset, .unset] [(.ref a217)]))) st224 ?_
        refine own_go (B := (T224.setTop (mkF m 75 #[iv p0, iv p1, iv p2, rv a1, rv a26, iv (0 : Int32), iv (1 : Int32), iv (0 : Int32), iv p0, rv a217, .unset, .unset, .unset, .unset] []))) (fun t k => XS.astore X224.here hx rfl (hb hby at_73) rfl rfl (l' := #[iv p0, iv p1, iv p2, rv a1, rv a26, iv (0 : Int32), iv (1 : Int32), iv (0 : Int32), iv p0, rv a217, .unset, .unset, .unset, .unset]) rfl k) ?_
        obtain ⟨T232, h232, X232, e232, E232, A232, D232, U232, st232⟩ := newO X224 hx hZ hown w_36 w_37 w_38 rfl (g := (mkF m 75 #[iv p0, iv p1, iv p2, rv a1, rv a26, iv (0 : Int32), iv (1 : Int32), iv (0 : Int32), iv p0, rv a217, .unset, .unset, .unset, .unset] [])) rfl (hb hby at_75) (own_b rfl) (own_b rfl)
        obtain ⟨a232, ga232⟩ : ∃ z, z = T224.heap.size := ⟨_, rfl⟩
        rw [← ga232] at A232 D232 U232 st232
        refine own_go (B := (T232.setTop (mkF m 78 #[iv p0, iv p1, iv p2, rv a1, rv a26, iv (0 : Int32), iv (1 : Int32), iv (0 : Int32), iv p0, rv a217, .unset, .unset, .unset, .unset] [(.ref a232)]))) st232 ?_
        have Z233 : n0 ≤ h232.size := Nat.le_trans F225 E232.1
        have K234 := Keep.ext F226 E232
        have F235 := Exa.ext E232 F227
        have F236 := Exa.ext E232 F228
        have F237 := Exa.ext E232 Ex224
        have F238 := Fld.ext E232 g0_224
        have F239 := Fld.ext E232 g1_224
        have gn232 : n0 ≤ a232 := Nat.le_trans F225 (Nat.le_of_eq ga232.symm)
        have ne232_a1 : a232 ≠ a1 := fun q => absurd (F227.lt) (by rw [← q, ga232]; exact Nat.lt_irrefl _)
        have ne232_a26 : a232 ≠ a26 := fun q => absurd (F228.lt) (by rw [← q, ga232]; exact Nat.lt_irrefl _)
        have ne232_a217 : a232 ≠ a217 := fun q => absurd (Ex224.lt) (by rw [← q, ga232]; exact Nat.lt_irrefl _)
        have F240 : Fld Z h232 a232 "com/example/parts_to_policy/partstopolicy/policy/PacketSet" "bdd" "Lcom/example/parts_to_policy/partstopolicy/policy/Bdd;" .null := D232 (Or.inr w_44) (ty := (.object "com/example/parts_to_policy/partstopolicy/policy/Bdd")) (by decide)
        have F241 : Fld Z h232 a232 "com/example/parts_to_policy/partstopolicy/policy/PacketSet" "node" "I" (.int (0 : Int32)) := D232 (Or.inr w_46) (ty := .int) (by decide)
        refine own_go (B := (T232.setTop (mkF m 79 #[iv p0, iv p1, iv p2, rv a1, rv a26, iv (0 : Int32), iv (1 : Int32), iv (0 : Int32), iv p0, rv a217, .unset, .unset, .unset, .unset] [(.ref a232), (.ref a232)]))) (fun t k => XS.dup X232.here hx rfl (hb hby at_78) rfl rfl k) ?_
        refine own_go (B := (T232.setTop (mkF m 81 #[iv p0, iv p1, iv p2, rv a1, rv a26, iv (0 : Int32), iv (1 : Int32), iv (0 : Int32), iv p0, rv a217, .unset, .unset, .unset, .unset] [(.int (0 : Int32)), (.ref a232), (.ref a232)]))) (fun t k => XS.iload X232.here hx rfl (hb hby at_79) rfl k) ?_
        have hc81 : (0 : Int32) = (0 : Int32) := (by decide)
        refine own_ifY X232 hx (hb hby at_81) (pc' := 88) (by decide) (by decide) hc81 ?_
        refine own_go (B := (T232.setTop (mkF m 90 #[iv p0, iv p1, iv p2, rv a1, rv a26, iv (0 : Int32), iv (1 : Int32), iv (0 : Int32), iv p0, rv a217, .unset, .unset, .unset, .unset] [(.ref a26), (.ref a232), (.ref a232)]))) (fun t k => XS.aload X232.here hx rfl (hb hby at_88) rfl rfl k) ?_
        refine own_go (B := (T232.setTop (mkF m 92 #[iv p0, iv p1, iv p2, rv a1, rv a26, iv (0 : Int32), iv (1 : Int32), iv (0 : Int32), iv p0, rv a217, .unset, .unset, .unset, .unset] [(.int p0), (.ref a26), (.ref a232), (.ref a232)]))) (fun t k => XS.iload X232.here hx rfl (hb hby at_90) rfl k) ?_
        obtain ⟨_, _, ⟨T242, L242, k242, n242⟩, -, X242, ⟨Lc242, hQ242, l242, y242, z242⟩, st242⟩ := X232.specialBack hx (y := own_y6) rfl hown (mvT hZ w_39) (mvT hZ w_40) (mvT hZ w_41) (by decide) (backOf (W := 1) (own_pct l Z a0 hw [] a232 a26 p0 h232 n0 Z233 A232 gn232 F240 F241) hZ w_41 w_38 (by decide) (by decide)) (g := (mkF m 92 #[iv p0, iv p1, iv p2, rv a1, rv a26, iv (0 : Int32), iv (1 : Int32), iv (0 : Int32), iv p0, rv a217, .unset, .unset, .unset, .unset] [(.int p0), (.ref a26), (.ref a232), (.ref a232)])) rfl (by rw [hml]; rfl) (Steps.refl _) (a := a232) (argsL := [(.ref a26), (.int p0)]) (rest := [(.ref a232)]) (lenOf own_pd4 rfl) rfl (by show 2 * 0 + _ ≤ _; exact own_b rfl) (hb hby at_92) (fun _ _ => ⟨rfl, e232, (own_b rfl : 20 + 0 ≤ _), (own_b rfl : 43030 + 0 ≤ _)⟩)
        dsimp only [Pt.U, Pt.locs, Pt.cells, Pt.slots] at X242 l242 y242 z242 st242 hQ242
        obtain ⟨rfl, Nq242, K242, Ex242, g0_242, g1_242⟩ := hQ242
        obtain ⟨L242, X242, N242⟩ := own_absC (K := 20) (K' := 43030) X242 l242 y242 z242 N224 Nq242
        have F243 : n0 ≤ T242.heap.size := Nat.le_trans Z233 K242.1
        have F244 := Keep.trans K234 K242 (allS (Or.inr (Nat.le_trans F226.1 (Nat.le_of_eq ga232.symm))) all0)
        have F245 := Exa.keep F235 K242
        have F246 := Exa.keep F236 K242
        have F247 := Exa.keep F237 K242
        have F248 := Fld.keep F238 K242 (ninS (Ne.symm ne232_a217) nin0)
        have F249 := Fld.keep F239 K242 (ninS (Ne.symm ne232_a217) nin0)
        have F250 := Exa.keep A232 K242
        refine own_tr (B := (T242.setTop (mkF m 95 #[iv p0, iv p1, iv p2, rv a1, rv a26, iv (0 : Int32), iv (1 : Int32), iv (0 : Int32), iv p0, rv a217, .unset, .unset, .unset, .unset] [(.ref a232)]))) st242 ?_
        refine own_go (B := (T242.setTop (mkF m 97 #[iv p0, iv p1, iv p2, rv a1, rv a26, iv (0 : Int32), iv (1 : Int32), iv (0 : Int32), iv p0, rv a217, rv a232, .unset, .unset, .unset] []))) (fun t k => XS.astore X242.here hx rfl (hb hby at_95) rfl rfl (l' := #[iv p0, iv p1, iv p2, rv a1, rv a26, iv (0 : Int32), iv (1 : Int32), iv (0 : Int32), iv p0, rv a217, rv a232, .unset, .unset, .unset]) rfl k) ?_
        refine own_go (B := (T242.setTop (mkF m 99 #[iv p0, iv p1, iv p2, rv a1, rv a26, iv (0 : Int32), iv (1 : Int32), iv (0 : Int32), iv p0, rv a217, rv a232, .unset, .unset, .unset] [(.int (0 : Int32))]))) (fun t k => XS.iload X242.here hx rfl (hb hby at_97) rfl k) ?_
        have hc99 : (0 : Int32) = (0 : Int32) := (by decide)
        refine own_ifN X242 hx (hb hby at_99) (pn := 102) rfl hc99 ?_
        refine own_go (B := (T242.setTop (mkF m 104 #[iv p0, iv p1, iv p2, rv a1, rv a26, iv (0 : Int32), iv (1 : Int32), iv (0 : Int32), iv p0, rv a217, rv a232, .unset, .unset, .unset] [(.ref a232)]))) (fun t k => XS.aload X242.here hx rfl (hb hby at_102) rfl rfl k) ?_
        refine own_go (B := (T242.setTop (mkF m 106 #[iv p0, iv p1, iv p2, rv a1, rv a26, iv (0 : Int32), iv (1 : Int32), iv (0 : Int32), iv p0, rv a217, rv a232, rv a232, .unset, .unset] []))) (fun t k => XS.astore X242.here hx rfl (hb hby at_104) rfl rfl (l' := #[iv p0, iv p1, iv p2, rv a1, rv a26, iv (0 : Int32), iv (1 : Int32), iv (0 : Int32), iv p0, rv a217, rv a232, rv a232, .unset, .unset]) rfl k) ?_
        refine own_go (B := (T242.setTop (mkF m 139 #[iv p0, iv p1, iv p2, rv a1, rv a26, iv (0 : Int32), iv (1 : Int32), iv (0 : Int32), iv p0, rv a217, rv a232, rv a232, .unset, .unset] []))) (fun t k => XS.goto X242.here hx rfl (pc0 := 106) (pc' := 139) rfl (hb hby at_106) (by decide) (by decide) k) ?_
        refine own_go (B := (T242.setTop (mkF m 141 #[iv p0, iv p1, iv p2, rv a1, rv a26, iv (0 : Int32), iv (1 : Int32), iv (0 : Int32), iv p0, rv a217, rv a232, rv a232, .unset, .unset] [(.int (0 : Int32))]))) (fun t k => XS.iload X242.here hx rfl (hb hby at_139) rfl k) ?_
        have hc141 : (0 : Int32) = (0 : Int32) := (by decide)
        refine own_ifN X242 hx (hb hby at_141) (pn := 144) rfl hc141 ?_
        refine own_go (B := (T242.setTop (mkF m 146 #[iv p0, iv p1, iv p2, rv a1, rv a26, iv (0 : Int32), iv (1 : Int32), iv (0 : Int32), iv p0, rv a217, rv a232, rv a232, .unset, .unset] [(.int (0 : Int32))]))) (fun t k => XS.iload X242.here hx rfl (hb hby at_144) rfl k) ?_
        have hc146 : (0 : Int32) = (0 : Int32) := (by decide)
        refine own_ifY X242 hx (hb hby at_146) (pc' := 159) (by decide) (by decide) hc146 ?_
        refine own_go (B := (T242.setTop (mkF m 160 #[iv p0, iv p1, iv p2, rv a1, rv a26, iv (0 : Int32), iv (1 : Int32), iv (0 : Int32), iv p0, rv a217, rv a232, rv a232, .unset, .unset] [(.int (0 : Int32))]))) (fun t k => own_iconst (v := (0 : Int32)) X242.here hx rfl (hb hby at_159) (by decide) k) ?_
        refine own_go (B := (T242.setTop (mkF m 162 #[iv p0, iv p1, iv p2, rv a1, rv a26, iv (0 : Int32), iv (1 : Int32), iv (0 : Int32), iv p0, rv a217, rv a232, rv a232, iv (0 : Int32), .unset] []))) (fun t k => XS.istore X242.here hx rfl (hb hby at_160) rfl (l' := #[iv p0, iv p1, iv p2, rv a1, rv a26, iv (0 : Int32), iv (1 : Int32), iv (0 : Int32), iv p0, rv a217, rv a232, rv a232, iv (0 : Int32), .unset]) rfl k) ?_
        refine own_go (B := (T242.setTop (mkF m 164 #[iv p0, iv p1, iv p2, rv a1, rv a26, iv (0 : Int32), iv (1 : Int32), iv (0 : Int32), iv p0, rv a217, rv a232, rv a232, iv (0 : Int32), .unset] [(.ref a217)]))) (fun t k => XS.aload X242.here hx rfl (hb hby at_162) rfl rfl k) ?_
        refine own_go (B := (T242.setTop (mkF m 166 #[iv p0, iv p1, iv p2, rv a1, rv a26, iv (0 : Int32), iv (1 : Int32), iv (0 : Int32), iv p0, rv a217, rv a232, rv a232, iv (0 : Int32), .unset] [(.ref a232), (.ref a217)]))) (fun t k => XS.aload X242.here hx rfl (hb hby at_164) rfl rfl k) ?_
        obtain ⟨cq253, kq253, qa253, qb253, qc253⟩ := isOf hZ rfl F247
        obtain ⟨_, _, ⟨T253, L253, k253, n253⟩, -, X253, ⟨Lc253, hQ253, l253, y253, z253⟩, st253⟩ := X242.virtualBack hx (y := own_y7) (z := own_y7) hown (mvT hZ w_47) (mvT hZ w_48) (notFace_of_selects (args := #[]) (mvT hZ w_50)) (mvT hZ w_50) (mvT hZ w_49) (by decide) (backOf (W := 0) (own_eqB l Z a0 hw [] a217 a232 a1 a26 p0 p0 T242.heap n0 Ex242 F248 g0_242 F249 g1_242 ((Ne.symm ne26_a1))) hZ w_51 w_38 (by decide) (by decide)) qa253 qc253 (g := (mkF m 166 #[iv p0, iv p1, iv p2, rv a1, rv a26, iv (0 : Int32), iv (1 : Int32), iv (0 : Int32), iv p0, rv a217, rv a232, rv a232, iv (0 : Int32), .unset] [(.ref a232), (.ref a217)])) rfl (by rw [hml]; rfl) (Steps.refl _) (argsL := [(.ref a232)]) (rest := []) (lenOf own_pd5 rfl) rfl (by show 2 * 0 + _ ≤ _; exact own_b rfl) (hb hby at_166) (fun _ _ => ⟨rfl, rfl, (own_b rfl : 20 + 0 ≤ _), (own_b rfl : 43030 + 0 ≤ _)⟩)
        dsimp only [Pt.U, Pt.locs, Pt.cells, Pt.slots] at X253 l253 y253 z253 st253 hQ253
        obtain ⟨rfl, Nq253, eq253⟩ := hQ253
        obtain ⟨L253, X253, N253⟩ := own_absC (K := 20) (K' := 43030) X253 l253 y253 z253 N242 Nq253
        have e253 : T253.heap = T242.heap := eq253
        refine own_tr (B := (T253.setTop (mkF m 169 #[iv p0, iv p1, iv p2, rv a1, rv a26, iv (0 : Int32), iv (1 : Int32), iv (0 : Int32), iv p0, rv a217, rv a232, rv a232, iv (0 : Int32), .unset] [(.int (0 : Int32))]))) st253 ?_
        refine own_go (B := (T253.setTop (mkF m 171 #[iv p0, iv p1, iv p2, rv a1, rv a26, iv (0 : Int32), iv (1 : Int32), iv (0 : Int32), iv p0, rv a217, rv a232, rv a232, iv (0 : Int32), iv (0 : Int32)] []))) (fun t k => XS.istore X253.here hx rfl (hb hby at_169) rfl (l' := #[iv p0, iv p1, iv p2, rv a1, rv a26, iv (0 : Int32), iv (1 : Int32), iv (0 : Int32), iv p0, rv a217, rv a232, rv a232, iv (0 : Int32), iv (0 : Int32)]) rfl k) ?_
        refine own_go (B := (T253.setTop (mkF m 173 #[iv p0, iv p1, iv p2, rv a1, rv a26, iv (0 : Int32), iv (1 : Int32), iv (0 : Int32), iv p0, rv a217, rv a232, rv a232, iv (0 : Int32), iv (0 : Int32)] [(.int (0 : Int32))]))) (fun t k => XS.iload X253.here hx rfl (hb hby at_171) rfl k) ?_
        refine own_go (B := (T253.setTop (mkF m 175 #[iv p0, iv p1, iv p2, rv a1, rv a26, iv (0 : Int32), iv (1 : Int32), iv (0 : Int32), iv p0, rv a217, rv a232, rv a232, iv (0 : Int32), iv (0 : Int32)] [(.int (0 : Int32)), (.int (0 : Int32))]))) (fun t k => XS.iload X253.here hx rfl (hb hby at_173) rfl k) ?_
        have hc175 : (0 : Int32) = (0 : Int32) := (by decide)
        refine own_icmpY X253 hx (hb hby at_175) (pc' := 180) (by decide) (by decide) hc175 ?_
        refine own_go (B := (T253.setTop (mkF m 182 #[iv p0, iv p1, iv p2, rv a1, rv a26, iv (0 : Int32), iv (1 : Int32), iv (0 : Int32), iv p0, rv a217, rv a232, rv a232, iv (0 : Int32), iv (0 : Int32)] [(.ref a217)]))) (fun t k => XS.aload X253.here hx rfl (hb hby at_180) rfl rfl k) ?_
        refine own_go (B := (T253.setTop (mkF m 184 #[iv p0, iv p1, iv p2, rv a1, rv a26, iv (0 : Int32), iv (1 : Int32), iv (0 : Int32), iv p0, rv a217, rv a232, rv a232, iv (0 : Int32), iv (0 : Int32)] [(.ref a217), (.ref a217)]))) (fun t k => XS.aload X253.here hx rfl (hb hby at_182) rfl rfl k) ?_
        obtain ⟨cq254, kq254, qa254, qb254, qc254⟩ := isOf hZ e253 F247
        obtain ⟨_, _, ⟨T254, L254, k254, n254⟩, -, X254, ⟨Lc254, hQ254, l254, y254, z254⟩, st254⟩ := X253.virtualBack hx (y := own_y7) (z := own_y7) hown (mvT hZ w_47) (mvT hZ w_48) (notFace_of_selects (args := #[]) (mvT hZ w_50)) (mvT hZ w_50) (mvT hZ w_49) (by decide) (backOf (W := 0) (own_eqT l Z a0 hw [] a217 a217 a1 p0 p0 T242.heap n0 F247 F248 F248 F249 F249 rfl) hZ w_51 w_38 (by decide) (by decide)) qa254 qc254 (g := (mkF m 184 #[iv p0, iv p1, iv p2, rv a1, rv a26, iv (0 : Int32), iv (1 : Int32), iv (0 : Int32), iv p0, rv a217, rv a232, rv a232, iv (0 : Int32), iv (0 : Int32)] [(.ref a217), (.ref a217)])) rfl (by rw [hml]; rfl) (Steps.refl _) (argsL := [(.ref a217)]) (rest := []) (lenOf own_pd5 rfl) rfl (by show 2 * 0 + _ ≤ _; exact own_b rfl) (hb hby at_184) (fun _ _ => ⟨rfl, e253, (own_b rfl : 20 + 0 ≤ _), (own_b rfl : 43030 + 0 ≤ _)⟩)
        dsimp only [Pt.U, Pt.locs, Pt.cells, Pt.slots] at X254 l254 y254 z254 st254 hQ254
        obtain ⟨rfl, Nq254, eq254⟩ := hQ254
        obtain ⟨L254, X254, N254⟩ := own_absC (K := 20) (K' := 43030) X254 l254 y254 z254 N253 Nq254
        have e254 : T254.heap = T242.heap := eq254
        refine own_tr (B := (T254.setTop (mkF m 187 #[iv p0, iv p1, iv p2, rv a1, rv a26, iv (0 : Int32), iv (1 : Int32), iv (0 : Int32), iv p0, rv a217, rv a232, rv a232, iv (0 : Int32), iv (0 : Int32)] [(.int (1 : Int32))]))) st254 ?_
        have hc187 : ¬ (1 : Int32) = (0 : Int32) := (by decide)
        refine own_ifY X254 hx (hb hby at_187) (pc' := 192) (by decide) (by decide) hc187 ?_
        refine own_go (B := (T254.setTop (mkF m 194 #[iv p0, iv p1, iv p2, rv a1, rv a26, iv (0 : Int32), iv (1 : Int32), iv (0 : Int32), iv p0, rv a217, rv a232, rv a232, iv (0 : Int32), iv (0 : Int32)] [(.int (0 : Int32))]))) (fun t k => XS.iload X254.here hx rfl (hb hby at_192) rfl k) ?_
        have hc194 : (0 : Int32) = (0 : Int32) := (by decide)
        refine own_ifN X254 hx (hb hby at_194) (pn := 197) rfl hc194 ?_
        refine own_go (B := (T254.setTop (mkF m 199 #[iv p0, iv p1, iv p2, rv a1, rv a26, iv (0 : Int32), iv (1 : Int32), iv (0 : Int32), iv p0, rv a217, rv a232, rv a232, iv (0 : Int32), iv (0 : Int32)] [(.ref a232)]))) (fun t k => XS.aload X254.here hx rfl (hb hby at_197) rfl rfl k) ?_
        refine own_go (B := (T254.setTop (mkF m 201 #[iv p0, iv p1, iv p2, rv a1, rv a26, iv (0 : Int32), iv (1 : Int32), iv (0 : Int32), iv p0, rv a217, rv a232, rv a232, iv (0 : Int32), iv (0 : Int32)] [(.ref a217), (.ref a232)]))) (fun t k => XS.aload X254.here hx rfl (hb hby at_199) rfl rfl k) ?_
        obtain ⟨cq255, kq255, qa255, qb255, qc255⟩ := isOf hZ e254 Ex242
        obtain ⟨_, _, ⟨T255, L255, k255, n255⟩, -, X255, ⟨Lc255, hQ255, l255, y255, z255⟩, st255⟩ := X254.virtualBack hx (y := own_y7) (z := own_y7) hown (mvT hZ w_47) (mvT hZ w_48) (notFace_of_selects (args := #[]) (mvT hZ w_50)) (mvT hZ w_50) (mvT hZ w_49) (by decide) (backOf (W := 0) (own_eqB l Z a0 hw [] a232 a217 a26 a1 p0 p0 T242.heap n0 F247 g0_242 F248 g1_242 F249 (ne26_a1)) hZ w_51 w_38 (by decide) (by decide)) qa255 qc255 (g := (mkF m 201 #[iv p0, iv p1, iv p2, rv a1, rv a26, iv (0 : Int32), iv (1 : Int32), iv (0 : Int32), iv p0, rv a217, rv a232, rv a232, iv (0 : Int32), iv (0 : Int32)] [(.ref a217), (.ref a232)])) rfl (by rw [hml]; rfl) (Steps.refl _) (argsL := [(.ref a217)]) (rest := []) (lenOf own_pd5 rfl) rfl (by show 2 * 0 + _ ≤ _; exact own_b rfl) (hb hby at_201) (fun _ _ => ⟨rfl, e254, (own_b rfl : 20 + 0 ≤ _), (own_b rfl : 43030 + 0 ≤ _)⟩)
        dsimp only [Pt.U, Pt.locs, Pt.cells, Pt.slots] at X255 l255 y255 z255 st255 hQ255
        obtain ⟨rfl, Nq255, eq255⟩ := hQ255
        obtain ⟨L255, X255, N255⟩ := own_absC (K := 20) (K' := 43030) X255 l255 y255 z255 N254 Nq255
        have e255 : T255.heap = T242.heap := eq255
        refine own_tr (B := (T255.setTop (mkF m 204 #[iv p0, iv p1, iv p2, rv a1, rv a26, iv (0 : Int32), iv (1 : Int32), iv (0 : Int32), iv p0, rv a217, rv a232, rv a232, iv (0 : Int32), iv (0 : Int32)] [(.int (0 : Int32))]))) st255 ?_
        refine own_go (B := (T255.setTop (mkF m 206 #[iv p0, iv p1, iv p2, rv a1, rv a26, iv (0 : Int32), iv (1 : Int32), iv (0 : Int32), iv p0, rv a217, rv a232, rv a232, iv (0 : Int32), iv (0 : Int32)] [(.int (0 : Int32)), (.int (0 : Int32))]))) (fun t k => XS.iload X255.here hx rfl (hb hby at_204) rfl k) ?_
        have hc206 : (0 : Int32) = (0 : Int32) := (by decide)
        refine own_icmpY X255 hx (hb hby at_206) (pc' := 211) (by decide) (by decide) hc206 ?_
        refine own_go (B := (T255.setTop (mkF m 212 #[iv p0, iv p1, iv p2, rv a1, rv a26, iv (0 : Int32), iv (1 : Int32), iv (0 : Int32), iv p0, rv a217, rv a232, rv a232, iv (0 : Int32), iv (0 : Int32)] [(.int (1 : Int32))]))) (fun t k => own_iconst (v := (1 : Int32)) X255.here hx rfl (hb hby at_211) (by decide) k) ?_
        exact own_retZ X255 hx hlk Bd.returns (hb hby at_212) (by decide) (own_b rfl) (own_b rfl) (Q := (own_law_Q Z p0 p1 p2 ca h0 n0)) ⟨rfl, N255⟩
      · refine own_go (B := (T39.setTop (mkF m 54 #[iv p0, iv p1, iv p2, rv a1, rv a26, iv (0 : Int32), iv (1 : Int32), iv (1 : Int32), .unset, .unset, .unset, .unset, .unset, .unset] [(.int (1 : Int32))]))) (fun t k => XS.iload X39.here hx rfl (hb hby at_52) rfl k) ?_
        have hc54 : ¬ (1 : Int32) = (0 : Int32) := (by decide)
        refine own_ifN X39 hx (hb hby at_54) (pn := 57) rfl hc54 ?_
        refine own_go (B := (T39.setTop (mkF m 58 #[iv p0, iv p1, iv p2, rv a1, rv a26, iv (0 : Int32), iv (1 : Int32), iv (1 : Int32), .unset, .unset, .unset, .unset, .unset, .unset] [(.int p0)]))) (fun t k => XS.iloadN X39.here hx rfl (hb hby at_57) rfl k) ?_
        refine own_go (B := (T39.setTop (mkF m 62 #[iv p0, iv p1, iv p2, rv a1, rv a26, iv (0 : Int32), iv (1 : Int32), iv (1 : Int32), .unset, .unset, .unset, .unset, .unset, .unset] [(.int p0)]))) (fun t k => XS.goto X39.here hx rfl (pc0 := 58) (pc' := 62) rfl (hb hby at_58) (by decide) (by decide) k) ?_
        refine own_go (B := (T39.setTop (mkF m 64 #[iv p0, iv p1, iv p2, rv a1, rv a26, iv (0 : Int32), iv (1 : Int32), iv (1 : Int32), iv p0, .unset, .unset, .unset, .unset, .unset] []))) (fun t k => XS.istore X39.here hx rfl (hb hby at_62) rfl (l' := #[iv p0, iv p1, iv p2, rv a1, rv a26, iv (0 : Int32), iv (1 : Int32), iv (1 : Int32), iv p0, .unset, .unset, .unset, .unset, .unset]) rfl k) ?_
        obtain ⟨T256, h256, X256, e256, E256, A256, D256, U256, st256⟩ := newO X39 hx hZ hown w_36 w_37 w_38 rfl (g := (mkF m 64 #[iv p0, iv p1, iv p2, rv a1, rv a26, iv (0 : Int32), iv (1 : Int32), iv (1 : Int32), iv p0, .unset, .unset, .unset, .unset, .unset] [])) rfl (hb hby at_64) (own_b rfl) (own_b rfl)
        obtain ⟨a256, ga256⟩ : ∃ z, z = T39.heap.size := ⟨_, rfl⟩
        rw [← ga256] at A256 D256 U256 st256
        refine own_go (B := (T256.setTop (mkF m 67 #[iv p0, iv p1, iv p2, rv a1, rv a26, iv (0 : Int32), iv (1 : Int32), iv (1 : Int32), iv p0, .unset, .unset, .unset, .unset, .unset] [(.ref a256)]))) st256 ?_
        have Z257 : n0 ≤ h256.size := Nat.le_trans F40 E256.1
        have K258 := Keep.ext F41 E256
        have F259 := Exa.ext E256 F42
        have F260 := Exa.ext E256 Ex39
        have gn256 : n0 ≤ a256 := Nat.le_trans F40 (Nat.le_of_eq ga256.symm)
        have ne256_a1 : a256 ≠ a1 := fun q => absurd (F42.lt) (by rw [← q, ga256]; exact Nat.lt_irrefl _)
        have ne256_a26 : a256 ≠ a26 := fun q => absurd (Ex39.lt) (by rw [← q, ga256]; exact Nat.lt_irrefl _)
        have F261 : Fld Z h256 a256 "com/example/parts_to_policy/partstopolicy/policy/PacketSet" "bdd" "Lcom/example/parts_to_policy/partstopolicy/policy/Bdd;" .null := D256 (Or.inr w_44) (ty := (.object "com/example/parts_to_policy/partstopolicy/policy/Bdd")) (by decide)
        have F262 : Fld Z h256 a256 "com/example/parts_to_policy/partstopolicy/policy/PacketSet" "node" "I" (.int (0 : Int32)) := D256 (Or.inr w_46) (ty := .int) (by decide)
        refine own_go (B := (T256.setTop (mkF m 68 #[iv p0, iv p1, iv p2, rv a1, rv a26, iv (0 : Int32), iv (1 : Int32), iv (1 : Int32), iv p0, .unset, .unset, .unset, .unset, .unset] [(.ref a256), (.ref a256)]))) (fun t k => XS.dup X256.here hx rfl (hb hby at_67) rfl rfl k) ?_
        refine own_go (B := (T256.setTop (mkF m 69 #[iv p0, iv p1, iv p2, rv a1, rv a26, iv (0 : Int32), iv (1 : Int32), iv (1 : Int32), iv p0, .unset, .unset, .unset, .unset, .unset] [(.ref a1), (.ref a256), (.ref a256)]))) (fun t k => XS.aloadN X256.here hx rfl (hb hby at_68) rfl rfl k) ?_
        refine own_go (B := (T256.setTop (mkF m 70 #[iv p0, iv p1, iv p2, rv a1, rv a26, iv (0 : Int32), iv (1 : Int32), iv (1 : Int32), iv p0, .unset, .unset, .unset, .unset, .unset] [(.int p0), (.ref a1), (.ref a256), (.ref a256)]))) (fun t k => XS.iloadN X256.here hx rfl (hb hby at_69) rfl k) ?_
        obtain ⟨_, _, ⟨T263, L263, k263, n263⟩, -, X263, ⟨Lc263, hQ263, l263, y263, z263⟩, st263⟩ := X256.specialBack hx (y := own_y6) rfl hown (mvT hZ w_39) (mvT hZ w_40) (mvT hZ w_41) (by decide) (backOf (W := 1) (own_pct l Z a0 hw [] a256 a1 p0 h256 n0 Z257 A256 gn256 F261 F262) hZ w_41 w_38 (by decide) (by decide)) (g := (mkF m 70 #[iv p0, iv p1, iv p2, rv a1, rv a26, iv (0 : Int32), iv (1 : Int32), iv (1 : Int32), iv p0, .unset, .unset, .unset, .unset, .unset] [(.int p0), (.ref a1), (.ref a256), (.ref a256)])) rfl (by rw [hml]; rfl) (Steps.refl _) (a := a256) (argsL := [(.ref a1), (.int p0)]) (rest := [(.ref a256)]) (lenOf own_pd4 rfl) rfl (by show 2 * 0 + _ ≤ _; exact own_b rfl) (hb hby at_70) (fun _ _ => ⟨rfl, e256, (own_b rfl : 19 + 0 ≤ _), (own_b rfl : 43028 + 0 ≤ _)⟩)
        dsimp only [Pt.U, Pt.locs, Pt.cells, Pt.slots] at X263 l263 y263 z263 st263 hQ263
        obtain ⟨rfl, Nq263, K263, Ex263, g0_263, g1_263⟩ := hQ263
        obtain ⟨L263, X263, N263⟩ := own_absC (K := 19) (K' := 43028) X263 l263 y263 z263 N39 Nq263
        have F264 : n0 ≤ T263.heap.size := Nat.le_trans Z257 K263.1
        have F265 := Keep.trans K258 K263 (allS (Or.inr (Nat.le_trans F41.1 (Nat.le_of_eq ga256.symm))) all0)
        have F266 := Exa.keep F259 K263
        have F267 := Exa.keep F260 K263
        have F268 := Exa.keep A256 K263
        refine own_tr (B := (T263.setTop (mkF m 73 #[iv p0, iv p1, iv p2, rv a1, rv a26, iv (0 : Int32), iv (1 : Int32), iv (1 : Int32), iv p0, .unset, .unset, .unset, .unset, .unset] [(.ref a256)]))) st263 ?_
        refine own_go (B := (T263.setTop (mkF m 75 #[iv p0, iv p1, iv p2, rv a1, rv a26, iv (0 : Int32), iv (1 : Int32), iv (1 : Int32), iv p0, rv a256, .unset, .unset, .unset, .unset] []))) (fun t k => XS.astore X263.here hx rfl (hb hby at_73) rfl rfl (l' := #[iv p0, iv p1, iv p2, rv a1, rv a26, iv (0 : Int32), iv (1 : Int32), iv (1 : Int32), iv p0, rv a256, .unset, .unset, .unset, .unset]) rfl k) ?_
        obtain ⟨T271, h271, X271, e271, E271, A271, D271, U271, st271⟩ := newO X263 hx hZ hown w_36 w_37 w_38 rfl (g := (mkF m 75 #[iv p0, iv p1, iv p2, rv a1, rv a26, iv (0 : Int32), iv (1 : Int32), iv (1 : Int32), iv p0, rv a256, .unset, .unset, .unset, .unset] [])) rfl (hb hby at_75) (own_b rfl) (own_b rfl)
        obtain ⟨a271, ga271⟩ : ∃ z, z = T263.heap.size := ⟨_, rfl⟩
        rw [← ga271] at A271 D271 U271 st271
        refine own_go (B := (T271.setTop (mkF m 78 #[iv p0, iv p1, iv p2, rv a1, rv a26, iv (0 : Int32), iv (1 : Int32), iv (1 : Int32), iv p0, rv a256, .unset, .unset, .unset, .unset] [(.ref a271)]))) st271 ?_
        have Z272 : n0 ≤ h271.size := Nat.le_trans F264 E271.1
        have K273 := Keep.ext F265 E271
        have F274 := Exa.ext E271 F266
        have F275 := Exa.ext E271 F267
        have F276 := Exa.ext E271 Ex263
        have F277 := Fld.ext E271 g0_263
        have F278 := Fld.ext E271 g1_263
        have gn271 : n0 ≤ a271 := Nat.le_trans F264 (Nat.le_of_eq ga271.symm)
        have ne271_a1 : a271 ≠ a1 := fun q => absurd (F266.lt) (by rw [← q, ga271]; exact Nat.lt_irrefl _)
        have ne271_a26 : a271 ≠ a26 := fun q => absurd (F267.lt) (by rw [← q, ga271]; exact Nat.lt_irrefl _)
        have ne271_a256 : a271 ≠ a256 := fun q => absurd (Ex263.lt) (by rw [← q, ga271]; exact Nat.lt_irrefl _)
        have F279 : Fld Z h271 a271 "com/example/parts_to_policy/partstopolicy/policy/PacketSet" "bdd" "Lcom/example/parts_to_policy/partstopolicy/policy/Bdd;" .null := D271 (Or.inr w_44) (ty := (.object "com/example/parts_to_policy/partstopolicy/policy/Bdd")) (by decide)
        have F280 : Fld Z h271 a271 "com/example/parts_to_policy/partstopolicy/policy/PacketSet" "node" "I" (.int (0 : Int32)) := D271 (Or.inr w_46) (ty := .int) (by decide)
        refine own_go (B := (T271.setTop (mkF m 79 #[iv p0, iv p1, iv p2, rv a1, rv a26, iv (0 : Int32), iv (1 : Int32), iv (1 : Int32), iv p0, rv a256, .unset, .unset, .unset, .unset] [(.ref a271), (.ref a271)]))) (fun t k => XS.dup X271.here hx rfl (hb hby at_78) rfl rfl k) ?_
        refine own_go (B := (T271.setTop (mkF m 81 #[iv p0, iv p1, iv p2, rv a1, rv a26, iv (0 : Int32), iv (1 : Int32), iv (1 : Int32), iv p0, rv a256, .unset, .unset, .unset, .unset] [(.int (0 : Int32)), (.ref a271), (.ref a271)]))) (fun t k => XS.iload X271.here hx rfl (hb hby at_79) rfl k) ?_
        have hc81 : (0 : Int32) = (0 : Int32) := (by decide)
        refine own_ifY X271 hx (hb hby at_81) (pc' := 88) (by decide) (by decide) hc81 ?_
        refine own_go (B := (T271.setTop (mkF m 90 #[iv p0, iv p1, iv p2, rv a1, rv a26, iv (0 : Int32), iv (1 : Int32), iv (1 : Int32), iv p0, rv a256, .unset, .unset, .unset, .unset] [(.ref a26), (.ref a271), (.ref a271)]))) (fun t k => XS.aload X271.here hx rfl (hb hby at_88) rfl rfl k) ?_
        refine own_go (B := (T271.setTop (mkF m 92 #[iv p0, iv p1, iv p2, rv a1, rv a26, iv (0 : Int32), iv (1 : Int32), iv (1 : Int32), iv p0, rv a256, .unset, .unset, .unset, .unset] [(.int p0), (.ref a26), (.ref a271), (.ref a271)]))) (fun t k => XS.iload X271.here hx rfl (hb hby at_90) rfl k) ?_
        obtain ⟨_, _, ⟨T281, L281, k281, n281⟩, -, X281, ⟨Lc281, hQ281, l281, y281, z281⟩, st281⟩ := X271.specialBack hx (y := own_y6) rfl hown (mvT hZ w_39) (mvT hZ w_40) (mvT hZ w_41) (by decide) (backOf (W := 1) (own_pct l Z a0 hw [] a271 a26 p0 h271 n0 Z272 A271 gn271 F279 F280) hZ w_41 w_38 (by decide) (by decide)) (g := (mkF m 92 #[iv p0, iv p1, iv p2, rv a1, rv a26, iv (0 : Int32), iv (1 : Int32), iv (1 : Int32), iv p0, rv a256, .unset, .unset, .unset, .unset] [(.int p0), (.ref a26), (.ref a271), (.ref a271)])) rfl (by rw [hml]; rfl) (Steps.refl _) (a := a271) (argsL := [(.ref a26), (.int p0)]) (rest := [(.ref a271)]) (lenOf own_pd4 rfl) rfl (by show 2 * 0 + _ ≤ _; exact own_b rfl) (hb hby at_92) (fun _ _ => ⟨rfl, e271, (own_b rfl : 20 + 0 ≤ _), (own_b rfl : 43030 + 0 ≤ _)⟩)
        dsimp only [Pt.U, Pt.locs, Pt.cells, Pt.slots] at X281 l281 y281 z281 st281 hQ281
        obtain ⟨rfl, Nq281, K281, Ex281, g0_281, g1_281⟩ := hQ281
        obtain ⟨L281, X281, N281⟩ := own_absC (K := 20) (K' := 43030) X281 l281 y281 z281 N263 Nq281
        have F282 : n0 ≤ T281.heap.size := Nat.le_trans Z272 K281.1
        have F283 := Keep.trans K273 K281 (allS (Or.inr (Nat.le_trans F265.1 (Nat.le_of_eq ga271.symm))) all0)
        have F284 := Exa.keep F274 K281
        have F285 := Exa.keep F275 K281
        have F286 := Exa.keep F276 K281
        have F287 := Fld.keep F277 K281 (ninS (Ne.symm ne271_a256) nin0)
        have F288 := Fld.keep F278 K281 (ninS (Ne.symm ne271_a256) nin0)
        have F289 := Exa.keep A271 K281
        refine own_tr (B := (T281.setTop (mkF m 95 #[iv p0, iv p1, iv p2, rv a1, rv a26, iv (0 : Int32), iv (1 : Int32), iv (1 : Int32), iv p0, rv a256, .unset, .unset, .unset, .unset] [(.ref a271)]))) st281 ?_
        refine own_go (B := (T281.setTop (mkF m 97 #[iv p0, iv p1, iv p2, rv a1, rv a26, iv (0 : Int32), iv (1 : Int32), iv (1 : Int32), iv p0, rv a256, rv a271, .unset, .unset, .unset] []))) (fun t k => XS.astore X281.here hx rfl (hb hby at_95) rfl rfl (l' := #[iv p0, iv p1, iv p2, rv a1, rv a26, iv (0 : Int32), iv (1 : Int32), iv (1 : Int32), iv p0, rv a256, rv a271, .unset, .unset, .unset]) rfl k) ?_
        refine own_go (B := (T281.setTop (mkF m 99 #[iv p0, iv p1, iv p2, rv a1, rv a26, iv (0 : Int32), iv (1 : Int32), iv (1 : Int32), iv p0, rv a256, rv a271, .unset, .unset, .unset] [(.int (1 : Int32))]))) (fun t k => XS.iload X281.here hx rfl (hb hby at_97) rfl k) ?_
        have hc99 : ¬ (1 : Int32) = (0 : Int32) := (by decide)
        refine own_ifY X281 hx (hb hby at_99) (pc' := 109) (by decide) (by decide) hc99 ?_
        refine own_go (B := (T281.setTop (mkF m 111 #[iv p0, iv p1, iv p2, rv a1, rv a26, iv (0 : Int32), iv (1 : Int32), iv (1 : Int32), iv p0, rv a256, rv a271, .unset, .unset, .unset] [(.int (1 : Int32))]))) (fun t k => XS.iload X281.here hx rfl (hb hby at_109) rfl k) ?_
        refine own_go (B := (T281.setTop (mkF m 112 #[iv p0, iv p1, iv p2, rv a1, rv a26, iv (0 : Int32), iv (1 : Int32), iv (1 : Int32), iv p0, rv a256, rv a271, .unset, .unset, .unset] [(.int (1 : Int32)), (.int (1 : Int32))]))) (fun t k => own_iconst (v := (1 : Int32)) X281.here hx rfl (hb hby at_111) (by decide) k) ?_
        have hc112 : (1 : Int32) = (1 : Int32) := (by decide)
        refine own_icmpN X281 hx (hb hby at_112) (pn := 115) rfl hc112 ?_
        refine own_go (B := (T281.setTop (mkF m 116 #[iv p0, iv p1, iv p2, rv a1, rv a26, iv (0 : Int32), iv (1 : Int32), iv (1 : Int32), iv p0, rv a256, rv a271, .unset, .unset, .unset] [.null]))) (fun t k => XS.aconstNull X281.here hx rfl (hb hby at_115) k) ?_
        refine own_go (B := (T281.setTop (mkF m 118 #[iv p0, iv p1, iv p2, rv a1, rv a26, iv (0 : Int32), iv (1 : Int32), iv (1 : Int32), iv p0, rv a256, rv a271, .val .null, .unset, .unset] []))) (fun t k => XS.astore X281.here hx rfl (hb hby at_116) rfl rfl (l' := #[iv p0, iv p1, iv p2, rv a1, rv a26, iv (0 : Int32), iv (1 : Int32), iv (1 : Int32), iv p0, rv a256, rv a271, .val .null, .unset, .unset]) rfl k) ?_
        refine own_go (B := (T281.setTop (mkF m 139 #[iv p0, iv p1, iv p2, rv a1, rv a26, iv (0 : Int32), iv (1 : Int32), iv (1 : Int32), iv p0, rv a256, rv a271, .val .null, .unset, .unset] []))) (fun t k => XS.goto X281.here hx rfl (pc0 := 118) (pc' := 139) rfl (hb hby at_118) (by decide) (by decide) k) ?_
        refine own_go (B := (T281.setTop (mkF m 141 #[iv p0, iv p1, iv p2, rv a1, rv a26, iv (0 : Int32), iv (1 : Int32), iv (1 : Int32), iv p0, rv a256, rv a271, .val .null, .unset, .unset] [(.int (1 : Int32))]))) (fun t k => XS.iload X281.here hx rfl (hb hby at_139) rfl k) ?_
        have hc141 : ¬ (1 : Int32) = (0 : Int32) := (by decide)
        refine own_ifY X281 hx (hb hby at_141) (pc' := 159) (by decide) (by decide) hc141 ?_
        refine own_go (B := (T281.setTop (mkF m 160 #[iv p0, iv p1, iv p2, rv a1, rv a26, iv (0 : Int32), iv (1 : Int32), iv (1 : Int32), iv p0, rv a256, rv a271, .val .null, .unset, .unset] [(.int (0 : Int32))]))) (fun t k => own_iconst (v := (0 : Int32)) X281.here hx rfl (hb hby at_159) (by decide) k) ?_
        refine own_go (B := (T281.setTop (mkF m 162 #[iv p0, iv p1, iv p2, rv a1, rv a26, iv (0 : Int32), iv (1 : Int32), iv (1 : Int32), iv p0, rv a256, rv a271, .val .null, iv (0 : Int32), .unset] []))) (fun t k => XS.istore X281.here hx rfl (hb hby at_160) rfl (l' := #[iv p0, iv p1, iv p2, rv a1, rv a26, iv (0 : Int32), iv (1 : Int32), iv (1 : Int32), iv p0, rv a256, rv a271, .val .null, iv (0 : Int32), .unset]) rfl k) ?_
        refine own_go (B := (T281.setTop (mkF m 164 #[iv p0, iv p1, iv p2, rv a1, rv a26, iv (0 : Int32), iv (1 : Int32), iv (1 : Int32), iv p0, rv a256, rv a271, .val .null, iv (0 : Int32), .unset] [(.ref a256)]))) (fun t k => XS.aload X281.here hx rfl (hb hby at_162) rfl rfl k) ?_
        refine own_go (B := (T281.setTop (mkF m 166 #[iv p0, iv p1, iv p2, rv a1, rv a26, iv (0 : Int32), iv (1 : Int32), iv (1 : Int32), iv p0, rv a256, rv a271, .val .null, iv (0 : Int32), .unset] [.null, (.ref a256)]))) (fun t k => XS.aload X281.here hx rfl (hb hby at_164) rfl rfl k) ?_
        obtain ⟨cq292, kq292, qa292, qb292, qc292⟩ := isOf hZ rfl F286
        obtain ⟨_, _, ⟨T292, L292, k292, n292⟩, -, X292, ⟨Lc292, hQ292, l292, y292, z292⟩, st292⟩ := X281.virtualBack hx (y := own_y7) (z := own_y7) hown (mvT hZ w_47) (mvT hZ w_48) (notFace_of_selects (args := #[]) (mvT hZ w_50)) (mvT hZ w_50) (mvT hZ w_49) (by decide) (backOf (W := 0) (own_eqnull l Z a0 hw [] a256 T281.heap n0) hZ w_51 w_38 (by decide) (by decide)) qa292 qc292 (g := (mkF m 166 #[iv p0, iv p1, iv p2, rv a1, rv a26, iv (0 : Int32), iv (1 : Int32), iv (1 : Int32), iv p0, rv a256, rv a271, .val .null, iv (0 : Int32), .unset] [.null, (.ref a256)])) rfl (by rw [hml]; rfl) (Steps.refl _) (argsL := [.null]) (rest := []) (lenOf own_pd5 rfl) rfl (by show 2 * 0 + _ ≤ _; exact own_b rfl) (hb hby at_166) (fun _ _ => ⟨rfl, rfl, (own_b rfl : 20 + 0 ≤ _), (own_b rfl : 43030 + 0 ≤ _)⟩)
        dsimp only [Pt.U, Pt.locs, Pt.cells, Pt.slots] at X292 l292 y292 z292 st292 hQ292
        obtain ⟨rfl, Nq292, eq292⟩ := hQ292
        obtain ⟨L292, X292, N292⟩ := own_absC (K := 20) (K' := 43030) X292 l292 y292 z292 N281 Nq292
        have e292 : T292.heap = T281.heap := eq292
        refine own_tr (B := (T292.setTop (mkF m 169 #[iv p0, iv p1, iv p2, rv a1, rv a26, iv (0 : Int32), iv (1 : Int32), iv (1 : Int32), iv p0, rv a256, rv a271, .val .null, iv (0 : Int32), .unset] [(.int (0 : Int32))]))) st292 ?_
        refine own_go (B := (T292.setTop (mkF m 171 #[iv p0, iv p1, iv p2, rv a1, rv a26, iv (0 : Int32), iv (1 : Int32), iv (1 : Int32), iv p0, rv a256, rv a271, .val .null, iv (0 : Int32), iv (0 : Int32)] []))) (fun t k => XS.istore X292.here hx rfl (hb hby at_169) rfl (l' := #[iv p0, iv p1, iv p2, rv a1, rv a26, iv (0 : Int32), iv (1 : Int32), iv (1 : Int32), iv p0, rv a256, rv a271, .val .null, iv (0 : Int32), iv (0 : Int32)]) rfl k) ?_
        refine own_go (B := (T292.setTop (mkF m 173 #[iv p0, iv p1, iv p2, rv a1, rv a26, iv (0 : Int32), iv (1 : Int32), iv (1 : Int32), iv p0, rv a256, rv a271, .val .null, iv (0 : Int32), iv (0 : Int32)] [(.int (0 : Int32))]))) (fun t k => XS.iload X292.here hx rfl (hb hby at_171) rfl k) ?_
        refine own_go (B := (T292.setTop (mkF m 175 #[iv p0, iv p1, iv p2, rv a1, rv a26, iv (0 : Int32), iv (1 : Int32), iv (1 : Int32), iv p0, rv a256, rv a271, .val .null, iv (0 : Int32), iv (0 : Int32)] [(.int (0 : Int32)), (.int (0 : Int32))]))) (fun t k => XS.iload X292.here hx rfl (hb hby at_173) rfl k) ?_
        have hc175 : (0 : Int32) = (0 : Int32) := (by decide)
        refine own_icmpY X292 hx (hb hby at_175) (pc' := 180) (by decide) (by decide) hc175 ?_
        refine own_go (B := (T292.setTop (mkF m 182 #[iv p0, iv p1, iv p2, rv a1, rv a26, iv (0 : Int32), iv (1 : Int32), iv (1 : Int32), iv p0, rv a256, rv a271, .val .null, iv (0 : Int32), iv (0 : Int32)] [(.ref a256)]))) (fun t k => XS.aload X292.here hx rfl (hb hby at_180) rfl rfl k) ?_
        refine own_go (B := (T292.setTop (mkF m 184 #[iv p0, iv p1, iv p2, rv a1, rv a26, iv (0 : Int32), iv (1 : Int32), iv (1 : Int32), iv p0, rv a256, rv a271, .val .null, iv (0 : Int32), iv (0 : Int32)] [(.ref a256), (.ref a256)]))) (fun t k => XS.aload X292.here hx rfl (hb hby at_182) rfl rfl k) ?_
        obtain ⟨cq293, kq293, qa293, qb293, qc293⟩ := isOf hZ e292 F286
        obtain ⟨_, _, ⟨T293, L293, k293, n293⟩, -, X293, ⟨Lc293, hQ293, l293, y293, z293⟩, st293⟩ := X292.virtualBack hx (y := own_y7) (z := own_y7) hown (mvT hZ w_47) (mvT hZ w_48) (notFace_of_selects (args := #[]) (mvT hZ w_50)) (mvT hZ w_50) (mvT hZ w_49) (by decide) (backOf (W := 0) (own_eqT l Z a0 hw [] a256 a256 a1 p0 p0 T281.heap n0 F286 F287 F287 F288 F288 rfl) hZ w_51 w_38 (by decide) (by decide)) qa293 qc293 (g := (mkF m 184 #[iv p0, iv p1, iv p2, rv a1, rv a26, iv (0 : Int32), iv (1 : Int32), iv (1 : Int32), iv p0, rv a256, rv a271, .val .null, iv (0 : Int32), iv (0 : Int32)] [(.ref a256), (.ref a256)])) rfl (by rw [hml]; rfl) (Steps.refl _) (argsL := [(.ref a256)]) (rest := []) (lenOf own_pd5 rfl) rfl (by show 2 * 0 + _ ≤ _; exact own_b rfl) (hb hby at_184) (fun _ _ => ⟨rfl, e292, (own_b rfl : 20 + 0 ≤ _), (own_b rfl : 43030 + 0 ≤ _)⟩)
        dsimp only [Pt.U, Pt.locs, Pt.cells, Pt.slots] at X293 l293 y293 z293 st293 hQ293
        obtain ⟨rfl, Nq293, eq293⟩ := hQ293
        obtain ⟨L293, X293, N293⟩ := own_absC (K := 20) (K' := 43030) X293 l293 y293 z293 N292 Nq293
        have e293 : T293.heap = T281.heap := eq293
        refine own_tr (B := (T293.setTop (mkF m 187 #[iv p0, iv p1, iv p2, rv a1, rv a26, iv (0 : Int32), iv (1 : Int32), iv (1 : Int32), iv p0, rv a256, rv a271, .val .null, iv (0 : Int32), iv (0 : Int32)] [(.int (1 : Int32))]))) st293 ?_
        have hc187 : ¬ (1 : Int32) = (0 : Int32) := (by decide)
        refine own_ifY X293 hx (hb hby at_187) (pc' := 192) (by decide) (by decide) hc187 ?_
        refine own_go (B := (T293.setTop (mkF m 194 #[iv p0, iv p1, iv p2, rv a1, rv a26, iv (0 : Int32), iv (1 : Int32), iv (1 : Int32), iv p0, rv a256, rv a271, .val .null, iv (0 : Int32), iv (0 : Int32)] [(.int (1 : Int32))]))) (fun t k => XS.iload X293.here hx rfl (hb hby at_192) rfl k) ?_
        have hc194 : ¬ (1 : Int32) = (0 : Int32) := (by decide)
        refine own_ifY X293 hx (hb hby at_194) (pc' := 211) (by decide) (by decide) hc194 ?_
        refine own_go (B := (T293.setTop (mkF m 212 #[iv p0, iv p1, iv p2, rv a1, rv a26, iv (0 : Int32), iv (1 : Int32), iv (1 : Int32), iv p0, rv a256, rv a271, .val .null, iv (0 : Int32), iv (0 : Int32)] [(.int (1 : Int32))]))) (fun t k => own_iconst (v := (1 : Int32)) X293.here hx rfl (hb hby at_211) (by decide) k) ?_
        exact own_retZ X293 hx hlk Bd.returns (hb hby at_212) (by decide) (own_b rfl) (own_b rfl) (Q := (own_law_Q Z p0 p1 p2 ca h0 n0)) ⟨rfl, N293⟩
      · refine own_go (B := (T39.setTop (mkF m 54 #[iv p0, iv p1, iv p2, rv a1, rv a26, iv (0 : Int32), iv (1 : Int32), iv (2 : Int32), .unset, .unset, .unset, .unset, .unset, .unset] [(.int (1 : Int32))]))) (fun t k => XS.iload X39.here hx rfl (hb hby at_52) rfl k) ?_
        have hc54 : ¬ (1 : Int32) = (0 : Int32) := (by decide)
        refine own_ifN X39 hx (hb hby at_54) (pn := 57) rfl hc54 ?_
        refine own_go (B := (T39.setTop (mkF m 58 #[iv p0, iv p1, iv p2, rv a1, rv a26, iv (0 : Int32), iv (1 : Int32), iv (2 : Int32), .unset, .unset, .unset, .unset, .unset, .unset] [(.int p0)]))) (fun t k => XS.iloadN X39.here hx rfl (hb hby at_57) rfl k) ?_
        refine own_go (B := (T39.setTop (mkF m 62 #[iv p0, iv p1, iv p2, rv a1, rv a26, iv (0 : Int32), iv (1 : Int32), iv (2 : Int32), .unset, .unset, .unset, .unset, .unset, .unset] [(.int p0)]))) (fun t k => XS.goto X39.here hx rfl (pc0 := 58) (pc' := 62) rfl (hb hby at_58) (by decide) (by decide) k) ?_
        refine own_go (B := (T39.setTop (mkF m 64 #[iv p0, iv p1, iv p2, rv a1, rv a26, iv (0 : Int32), iv (1 : Int32), iv (2 : Int32), iv p0, .unset, .unset, .unset, .unset, .unset] []))) (fun t k => XS.istore X39.here hx rfl (hb hby at_62) rfl (l' := #[iv p0, iv p1, iv p2, rv a1, rv a26, iv (0 : Int32), iv (1 : Int32), iv (2 : Int32), iv p0, .unset, .unset, .unset, .unset, .unset]) rfl k) ?_
        obtain ⟨T294, h294, X294, e294, E294, A294, D294, U294, st294⟩ := newO X39 hx hZ hown w_36 w_37 w_38 rfl (g := (mkF m 64 #[iv p0, iv p1, iv p2, rv a1, rv a26, iv (0 : Int32), iv (1 : Int32), iv (2 : Int32), iv p0, .unset, .unset, .unset, .unset, .unset] [])) rfl (hb hby at_64) (own_b rfl) (own_b rfl)
        obtain ⟨a294, ga294⟩ : ∃ z, z = T39.heap.size := ⟨_, rfl⟩
        rw [← ga294] at A294 D294 U294 st294
        refine own_go (B := (T294.setTop (mkF m 67 #[iv p0, iv p1, iv p2, rv a1, rv a26, iv (0 : Int32), iv (1 : Int32), iv (2 : Int32), iv p0, .unset, .unset, .unset, .unset, .unset] [(.ref a294)]))) st294 ?_
        have Z295 : n0 ≤ h294.size := Nat.le_trans F40 E294.1
        have K296 := Keep.ext F41 E294
        have F297 := Exa.ext E294 F42
        have F298 := Exa.ext E294 Ex39
        have gn294 : n0 ≤ a294 := Nat.le_trans F40 (Nat.le_of_eq ga294.symm)
        have ne294_a1 : a294 ≠ a1 := fun q => absurd (F42.lt) (by rw [← q, ga294]; exact Nat.lt_irrefl _)
        have ne294_a26 : a294 ≠ a26 := fun q => absurd (Ex39.lt) (by rw [← q, ga294]; exact Nat.lt_irrefl _)
        have F299 : Fld Z h294 a294 "com/example/parts_to_policy/partstopolicy/policy/PacketSet" "bdd" "Lcom/example/parts_to_policy/partstopolicy/policy/Bdd;" .null := D294 (Or.inr w_44) (ty := (.object "com/example/parts_to_policy/partstopolicy/policy/Bdd")) (by decide)
        have F300 : Fld Z h294 a294 "com/example/parts_to_policy/partstopolicy/policy/PacketSet" "node" "I" (.int (0 : Int32)) := D294 (Or.inr w_46) (ty := .int) (by decide)
        refine own_go (B := (T294.setTop (mkF m 68 #[iv p0, iv p1, iv p2, rv a1, rv a26, iv (0 : Int32), iv (1 : Int32), iv (2 : Int32), iv p0, .unset, .unset, .unset, .unset, .unset] [(.ref a294), (.ref a294)]))) (fun t k => XS.dup X294.here hx rfl (hb hby at_67) rfl rfl k) ?_
        refine own_go (B := (T294.setTop (mkF m 69 #[iv p0, iv p1, iv p2, rv a1, rv a26, iv (0 : Int32), iv (1 : Int32), iv (2 : Int32), iv p0, .unset, .unset, .unset, .unset, .unset] [(.ref a1), (.ref a294), (.ref a294)]))) (fun t k => XS.aloadN X294.here hx rfl (hb hby at_68) rfl rfl k) ?_
        refine own_go (B := (T294.setTop (mkF m 70 #[iv p0, iv p1, iv p2, rv a1, rv a26, iv (0 : Int32), iv (1 : Int32), iv (2 : Int32), iv p0, .unset, .unset, .unset, .unset, .unset] [(.int p0), (.ref a1), (.ref a294), (.ref a294)]))) (fun t k => XS.iloadN X294.here hx rfl (hb hby at_69) rfl k) ?_
        obtain ⟨_, _, ⟨T301, L301, k301, n301⟩, -, X301, ⟨Lc301, hQ301, l301, y301, z301⟩, st301⟩ := X294.specialBack hx (y := own_y6) rfl hown (mvT hZ w_39) (mvT hZ w_40) (mvT hZ w_41) (by decide) (backOf (W := 1) (own_pct l Z a0 hw [] a294 a1 p0 h294 n0 Z295 A294 gn294 F299 F300) hZ w_41 w_38 (by decide) (by decide)) (g := (mkF m 70 #[iv p0, iv p1, iv p2, rv a1, rv a26, iv (0 : Int32), iv (1 : Int32), iv (2 : Int32), iv p0, .unset, .unset, .unset, .unset, .unset] [(.int p0), (.ref a1), (.ref a294), (.ref a294)])) rfl (by rw [hml]; rfl) (Steps.refl _) (a := a294) (argsL := [(.ref a1), (.int p0)]) (rest := [(.ref a294)]) (lenOf own_pd4 rfl) rfl (by show 2 * 0 + _ ≤ _; exact own_b rfl) (hb hby at_70) (fun _ _ => ⟨rfl, e294, (own_b rfl : 19 + 0 ≤ _), (own_b rfl : 43028 + 0 ≤ _)⟩)
        dsimp only [Pt.U, Pt.locs, Pt.cells, Pt.slots] at X301 l301 y301 z301 st301 hQ301
        obtain ⟨rfl, Nq301, K301, Ex301, g0_301, g1_301⟩ := hQ301
        obtain ⟨L301, X301, N301⟩ := own_absC (K := 19) (K' := 43028) X301 l301 y301 z301 N39 Nq301
        have F302 : n0 ≤ T301.heap.size := Nat.le_trans Z295 K301.1
        have F303 := Keep.trans K296 K301 (allS (Or.inr (Nat.le_trans F41.1 (Nat.le_of_eq ga294.symm))) all0)
        have F304 := Exa.keep F297 K301
        have F305 := Exa.keep F298 K301
        have F306 := Exa.keep A294 K301
        refine own_tr (B := (T301.setTop (mkF m 73 #[iv p0, iv p1, iv p2, rv a1, rv a26, iv (0 : Int32), iv (1 : Int32), iv (2 : Int32), iv p0, .unset, .unset, .unset, .unset, .unset] [(.ref a294)]))) st301 ?_
        refine own_go (B := (T301.setTop (mkF m 75 #[iv p0, iv p1, iv p2, rv a1, rv a26, iv (0 : Int32), iv (1 : Int32), iv (2 : Int32), iv p0, rv a294, .unset, .unset, .unset, .unset] []))) (fun t k => XS.astore X301.here hx rfl (hb hby at_73) rfl rfl (l' := #[iv p0, iv p1, iv p2, rv a1, rv a26, iv (0 : Int32), iv (1 : Int32), iv (2 : Int32), iv p0, rv a294, .unset, .unset, .unset, .unset]) rfl k) ?_
        obtain ⟨T309, h309, X309, e309, E309, A309, D309, U309, st309⟩ := newO X301 hx hZ hown w_36 w_37 w_38 rfl (g := (mkF m 75 #[iv p0, iv p1, iv p2, rv a1, rv a26, iv (0 : Int32), iv (1 : Int32), iv (2 : Int32), iv p0, rv a294, .unset, .unset, .unset, .unset] [])) rfl (hb hby at_75) (own_b rfl) (own_b rfl)
        obtain ⟨a309, ga309⟩ : ∃ z, z = T301.heap.size := ⟨_, rfl⟩
        rw [← ga309] at A309 D309 U309 st309
        refine own_go (B := (T309.setTop (mkF m 78 #[iv p0, iv p1, iv p2, rv a1, rv a26, iv (0 : Int32), iv (1 : Int32), iv (2 : Int32), iv p0, rv a294, .unset, .unset, .unset, .unset] [(.ref a309)]))) st309 ?_
        have Z310 : n0 ≤ h309.size := Nat.le_trans F302 E309.1
        have K311 := Keep.ext F303 E309
        have F312 := Exa.ext E309 F304
        have F313 := Exa.ext E309 F305
        have F314 := Exa.ext E309 Ex301
        have F315 := Fld.ext E309 g0_301
        have F316 := Fld.ext E309 g1_301
        have gn309 : n0 ≤ a309 := Nat.le_trans F302 (Nat.le_of_eq ga309.symm)
        have ne309_a1 : a309 ≠ a1 := fun q => absurd (F304.lt) (by rw [← q, ga309]; exact Nat.lt_irrefl _)
        have ne309_a26 : a309 ≠ a26 := fun q => absurd (F305.lt) (by rw [← q, ga309]; exact Nat.lt_irrefl _)
        have ne309_a294 : a309 ≠ a294 := fun q => absurd (Ex301.lt) (by rw [← q, ga309]; exact Nat.lt_irrefl _)
        have F317 : Fld Z h309 a309 "com/example/parts_to_policy/partstopolicy/policy/PacketSet" "bdd" "Lcom/example/parts_to_policy/partstopolicy/policy/Bdd;" .null := D309 (Or.inr w_44) (ty := (.object "com/example/parts_to_policy/partstopolicy/policy/Bdd")) (by decide)
        have F318 : Fld Z h309 a309 "com/example/parts_to_policy/partstopolicy/policy/PacketSet" "node" "I" (.int (0 : Int32)) := D309 (Or.inr w_46) (ty := .int) (by decide)
        refine own_go (B := (T309.setTop (mkF m 79 #[iv p0, iv p1, iv p2, rv a1, rv a26, iv (0 : Int32), iv (1 : Int32), iv (2 : Int32), iv p0, rv a294, .unset, .unset, .unset, .unset] [(.ref a309), (.ref a309)]))) (fun t k => XS.dup X309.here hx rfl (hb hby at_78) rfl rfl k) ?_
        refine own_go (B := (T309.setTop (mkF m 81 #[iv p0, iv p1, iv p2, rv a1, rv a26, iv (0 : Int32), iv (1 : Int32), iv (2 : Int32), iv p0, rv a294, .unset, .unset, .unset, .unset] [(.int (0 : Int32)), (.ref a309), (.ref a309)]))) (fun t k => XS.iload X309.here hx rfl (hb hby at_79) rfl k) ?_
        have hc81 : (0 : Int32) = (0 : Int32) := (by decide)
        refine own_ifY X309 hx (hb hby at_81) (pc' := 88) (by decide) (by decide) hc81 ?_
        refine own_go (B := (T309.setTop (mkF m 90 #[iv p0, iv p1, iv p2, rv a1, rv a26, iv (0 : Int32), iv (1 : Int32), iv (2 : Int32), iv p0, rv a294, .unset, .unset, .unset, .unset] [(.ref a26), (.ref a309), (.ref a309)]))) (fun t k => XS.aload X309.here hx rfl (hb hby at_88) rfl rfl k) ?_
        refine own_go (B := (T309.setTop (mkF m 92 #[iv p0, iv p1, iv p2, rv a1, rv a26, iv (0 : Int32), iv (1 : Int32), iv (2 : Int32), iv p0, rv a294, .unset, .unset, .unset, .unset] [(.int p0), (.ref a26), (.ref a309), (.ref a309)]))) (fun t k => XS.iload X309.here hx rfl (hb hby at_90) rfl k) ?_
        obtain ⟨_, _, ⟨T319, L319, k319, n319⟩, -, X319, ⟨Lc319, hQ319, l319, y319, z319⟩, st319⟩ := X309.specialBack hx (y := own_y6) rfl hown (mvT hZ w_39) (mvT hZ w_40) (mvT hZ w_41) (by decide) (backOf (W := 1) (own_pct l Z a0 hw [] a309 a26 p0 h309 n0 Z310 A309 gn309 F317 F318) hZ w_41 w_38 (by decide) (by decide)) (g := (mkF m 92 #[iv p0, iv p1, iv p2, rv a1, rv a26, iv (0 : Int32), iv (1 : Int32), iv (2 : Int32), iv p0, rv a294, .unset, .unset, .unset, .unset] [(.int p0), (.ref a26), (.ref a309), (.ref a309)])) rfl (by rw [hml]; rfl) (Steps.refl _) (a := a309) (argsL := [(.ref a26), (.int p0)]) (rest := [(.ref a309)]) (lenOf own_pd4 rfl) rfl (by show 2 * 0 + _ ≤ _; exact own_b rfl) (hb hby at_92) (fun _ _ => ⟨rfl, e309, (own_b rfl : 20 + 0 ≤ _), (own_b rfl : 43030 + 0 ≤ _)⟩)
        dsimp only [Pt.U, Pt.locs, Pt.cells, Pt.slots] at X319 l319 y319 z319 st319 hQ319
        obtain ⟨rfl, Nq319, K319, Ex319, g0_319, g1_319⟩ := hQ319
        obtain ⟨L319, X319, N319⟩ := own_absC (K := 20) (K' := 43030) X319 l319 y319 z319 N301 Nq319
        have F320 : n0 ≤ T319.heap.size := Nat.le_trans Z310 K319.1
        have F321 := Keep.trans K311 K319 (allS (Or.inr (Nat.le_trans F303.1 (Nat.le_of_eq ga309.symm))) all0)
        have F322 := Exa.keep F312 K319
        have F323 := Exa.keep F313 K319
        have F324 := Exa.keep F314 K319
        have F325 := Fld.keep F315 K319 (ninS (Ne.symm ne309_a294) nin0)
        have F326 := Fld.keep F316 K319 (ninS (Ne.symm ne309_a294) nin0)
        have F327 := Exa.keep A309 K319
        refine own_tr (B := (T319.setTop (mkF m 95 #[iv p0, iv p1, iv p2, rv a1, rv a26, iv (0 : Int32), iv (1 : Int32), iv (2 : Int32), iv p0, rv a294, .unset, .unset, .unset, .unset] [(.ref a309)]))) st319 ?_
        refine own_go (B := (T319.setTop (mkF m 97 #[iv p0, iv p1, iv p2, rv a1, rv a26, iv (0 : Int32), iv (1 : Int32), iv (2 : Int32), iv p0, rv a294, rv a309, .unset, .unset, .unset] []))) (fun t k => XS.astore X319.here hx rfl (hb hby at_95) rfl rfl (l' := #[iv p0, iv p1, iv p2, rv a1, rv a26, iv (0 : Int32), iv (1 : Int32), iv (2 : Int32), iv p0, rv a294, rv a309, .unset, .unset, .unset]) rfl k) ?_
        refine own_go (B := (T319.setTop (mkF m 99 #[iv p0, iv p1, iv p2, rv a1, rv a26, iv (0 : Int32), iv (1 : Int32), iv (2 : Int32), iv p0, rv a294, rv a309, .unset, .unset, .unset] [(.int (2 : Int32))]))) (fun t k => XS.iload X319.here hx rfl (hb hby at_97) rfl k) ?_
        have hc99 : ¬ (2 : Int32) = (0 : Int32) := (by decide)
        refine own_ifY X319 hx (hb hby at_99) (pc' := 109) (by decide) (by decide) hc99 ?_
        refine own_go (B := (T319.setTop (mkF m 111 #[iv p0, iv p1, iv p2, rv a1, rv a26, iv (0 : Int32), iv (1 : Int32), iv (2 : Int32), iv p0, rv a294, rv a309, .unset, .unset, .unset] [(.int (2 : Int32))]))) (fun t k => XS.iload X319.here hx rfl (hb hby at_109) rfl k) ?_
        refine own_go (B := (T319.setTop (mkF m 112 #[iv p0, iv p1, iv p2, rv a1, rv a26, iv (0 : Int32), iv (1 : Int32), iv (2 : Int32), iv p0, rv a294, rv a309, .unset, .unset, .unset] [(.int (1 : Int32)), (.int (2 : Int32))]))) (fun t k => own_iconst (v := (1 : Int32)) X319.here hx rfl (hb hby at_111) (by decide) k) ?_
        have hc112 : ¬ (2 : Int32) = (1 : Int32) := (by decide)
        refine own_icmpY X319 hx (hb hby at_112) (pc' := 121) (by decide) (by decide) hc112 ?_
        refine own_go (B := (T319.setTop (mkF m 123 #[iv p0, iv p1, iv p2, rv a1, rv a26, iv (0 : Int32), iv (1 : Int32), iv (2 : Int32), iv p0, rv a294, rv a309, .unset, .unset, .unset] [(.int (2 : Int32))]))) (fun t k => XS.iload X319.here hx rfl (hb hby at_121) rfl k) ?_
        refine own_go (B := (T319.setTop (mkF m 124 #[iv p0, iv p1, iv p2, rv a1, rv a26, iv (0 : Int32), iv (1 : Int32), iv (2 : Int32), iv p0, rv a294, rv a309, .unset, .unset, .unset] [(.int (2 : Int32)), (.int (2 : Int32))]))) (fun t k => own_iconst (v := (2 : Int32)) X319.here hx rfl (hb hby at_123) (by decide) k) ?_
        have hc124 : (2 : Int32) = (2 : Int32) := (by decide)
        refine own_icmpN X319 hx (hb hby at_124) (pn := 127) rfl hc124 ?_
        refine own_go (B := (T319.setTop (mkF m 128 #[iv p0, iv p1, iv p2, rv a1, rv a26, iv (0 : Int32), iv (1 : Int32), iv (2 : Int32), iv p0, rv a294, rv a309, .unset, .unset, .unset] [(.int p0)]))) (fun t k => XS.iloadN X319.here hx rfl (hb hby at_127) rfl k) ?_
        obtain ⟨_, _, ⟨T330, L330, k330, n330⟩, -, X330, ⟨Lc330, hQ330, l330, y330, z330⟩, st330⟩ := Jvm.LawKit.callS X319 hx (y := own_y8) hown (mvT hZ w_56) (mvT hZ w_57) (mvT hZ w_58) (mvT hZ w_59) (by decide) (backOf (W := 0) (own_vo l Z a0 hw [] p0 ca T319.heap n0 F320 (own_sta_keep hS1 F321 (fun _ q => nomatch q)) (own_sta_keep hS2 F321 (fun _ q => nomatch q)) (own_Cache_keep hC F321)) hZ w_59 w_58 (by decide) (by decide)) (g := (mkF m 128 #[iv p0, iv p1, iv p2, rv a1, rv a26, iv (0 : Int32), iv (1 : Int32), iv (2 : Int32), iv p0, rv a294, rv a309, .unset, .unset, .unset] [(.int p0)])) rfl (by rw [hml]; rfl) (argsL := [(.int p0)]) (rest := []) (lenOf own_pd6 rfl) rfl (by show 2 * 0 + _ ≤ _; exact own_b rfl) (hb hby at_128) (fun _ _ => ⟨rfl, rfl, (own_b rfl : 20 + 1 ≤ _), (own_b rfl : 43030 + 1 ≤ _)⟩)
        dsimp only [Pt.U, Pt.locs, Pt.cells, Pt.slots] at X330 l330 y330 z330 st330 hQ330
        obtain ⟨a330, rfl, Nq330, K330, Ex330, gv330⟩ := hQ330
        obtain ⟨L330, X330, N330⟩ := own_absC (K := 21) (K' := 43031) X330 l330 y330 z330 N319 Nq330
        have F331 : n0 ≤ T330.heap.size := Nat.le_trans F320 K330.1
        have F332 := Keep.trans F321 K330 all0
        have F333 := Exa.keep F322 K330
        have F334 := Exa.keep F323 K330
        have F335 := Exa.keep F324 K330
        have F336 := Fld.keep F325 K330 nin0
        have F337 := Fld.keep F326 K330 nin0
        have F338 := Exa.keep Ex319 K330
        have F339 := Fld.keep g0_319 K330 nin0
        have F340 := Fld.keep g1_319 K330 nin0
        refine own_go (B := (T330.setTop (mkF m 131 #[iv p0, iv p1, iv p2, rv a1, rv a26, iv (0 : Int32), iv (1 : Int32), iv (2 : Int32), iv p0, rv a294, rv a309, .unset, .unset, .unset] [(.ref a330)]))) st330 ?_
        refine own_go (B := (T330.setTop (mkF m 133 #[iv p0, iv p1, iv p2, rv a1, rv a26, iv (0 : Int32), iv (1 : Int32), iv (2 : Int32), iv p0, rv a294, rv a309, rv a330, .unset, .unset] []))) (fun t k => XS.astore X330.here hx rfl (hb hby at_131) rfl rfl (l' := #[iv p0, iv p1, iv p2, rv a1, rv a26, iv (0 : Int32), iv (1 : Int32), iv (2 : Int32), iv p0, rv a294, rv a309, rv a330, .unset, .unset]) rfl k) ?_
        refine own_go (B := (T330.setTop (mkF m 139 #[iv p0, iv p1, iv p2, rv a1, rv a26, iv (0 : Int32), iv (1 : Int32), iv (2 : Int32), iv p0, rv a294, rv a309, rv a330, .unset, .unset] []))) (fun t k => XS.goto X330.here hx rfl (pc0 := 133) (pc' := 139) rfl (hb hby at_133) (by decide) (by decide) k) ?_
        refine own_go (B := (T330.setTop (mkF m 141 #[iv p0, iv p1, iv p2, rv a1, rv a26, iv (0 : Int32), iv (1 : Int32), iv (2 : Int32), iv p0, rv a294, rv a309, rv a330, .unset, .unset] [(.int (2 : Int32))]))) (fun t k => XS.iload X330.here hx rfl (hb hby at_139) rfl k) ?_
        have hc141 : ¬ (2 : Int32) = (0 : Int32) := (by decide)
        refine own_ifY X330 hx (hb hby at_141) (pc' := 159) (by decide) (by decide) hc141 ?_
        refine own_go (B := (T330.setTop (mkF m 160 #[iv p0, iv p1, iv p2, rv a1, rv a26, iv (0 : Int32), iv (1 : Int32), iv (2 : Int32), iv p0, rv a294, rv a309, rv a330, .unset, .unset] [(.int (0 : Int32))]))) (fun t k => own_iconst (v := (0 : Int32)) X330.here hx rfl (hb hby at_159) (by decide) k) ?_
        refine own_go (B := (T330.setTop (mkF m 162 #[iv p0, iv p1, iv p2, rv a1, rv a26, iv (0 : Int32), iv (1 : Int32), iv (2 : Int32), iv p0, rv a294, rv a309, rv a330, iv (0 : Int32), .unset] []))) (fun t k => XS.istore X330.here hx rfl (hb hby at_160) rfl (l' := #[iv p0, iv p1, iv p2, rv a1, rv a26, iv (0 : Int32), iv (1 : Int32), iv (2 : Int32), iv p0, rv a294, rv a309, rv a330, iv (0 : Int32), .unset]) rfl k) ?_
        refine own_go (B := (T330.setTop (mkF m 164 #[iv p0, iv p1, iv p2, rv a1, rv a26, iv (0 : Int32), iv (1 : Int32), iv (2 : Int32), iv p0, rv a294, rv a309, rv a330, iv (0 : Int32), .unset] [(.ref a294)]))) (fun t k => XS.aload X330.here hx rfl (hb hby at_162) rfl rfl k) ?_
        refine own_go (B := (T330.setTop (mkF m 166 #[iv p0, iv p1, iv p2, rv a1, rv a26, iv (0 : Int32), iv (1 : Int32), iv (2 : Int32), iv p0, rv a294, rv a309, rv a330, iv (0 : Int32), .unset] [(.ref a330), (.ref a294)]))) (fun t k => XS.aload X330.here hx rfl (hb hby at_164) rfl rfl k) ?_
        obtain ⟨cq341, kq341, qa341, qb341, qc341⟩ := isOf hZ rfl F335
        obtain ⟨_, _, ⟨T341, L341, k341, n341⟩, -, X341, ⟨Lc341, hQ341, l341, y341, z341⟩, st341⟩ := X330.virtualBack hx (y := own_y7) (z := own_y7) hown (mvT hZ w_47) (mvT hZ w_48) (notFace_of_selects (args := #[]) (mvT hZ w_50)) (mvT hZ w_50) (mvT hZ w_49) (by decide) (backOf (W := 0) (own_eqint_ l Z a0 hw [] a294 a330 T330.heap n0 Ex330) hZ w_51 w_38 (by decide) (by decide)) qa341 qc341 (g := (mkF m 166 #[iv p0, iv p1, iv p2, rv a1, rv a26, iv (0 : Int32), iv (1 : Int32), iv (2 : Int32), iv p0, rv a294, rv a309, rv a330, iv (0 : Int32), .unset] [(.ref a330), (.ref a294)])) rfl (by rw [hml]; rfl) (Steps.refl _) (argsL := [(.ref a330)]) (rest := []) (lenOf own_pd5 rfl) rfl (by show 2 * 0 + _ ≤ _; exact own_b rfl) (hb hby at_166) (fun _ _ => ⟨rfl, rfl, (own_b rfl : 21 + 0 ≤ _), (own_b rfl : 43031 + 0 ≤ _)⟩)
        dsimp only [Pt.U, Pt.locs, Pt.cells, Pt.slots] at X341 l341 y341 z341 st341 hQ341
        obtain ⟨rfl, Nq341, eq341⟩ := hQ341
        obtain ⟨L341, X341, N341⟩ := own_absC (K := 21) (K' := 43031) X341 l341 y341 z341 N330 Nq341
        have e341 : T341.heap = T330.heap := eq341
        refine own_tr (B := (T341.setTop (mkF m 169 #[iv p0, iv p1, iv p2, rv a1, rv a26, iv (0 : Int32), iv (1 : Int32), iv (2 : Int32), iv p0, rv a294, rv a309, rv a330, iv (0 : Int32), .unset] [(.int (0 : Int32))]))) st341 ?_
        refine own_go (B := (T341.setTop (mkF m 171 #[iv p0, iv p1, iv p2, rv a1, rv a26, iv (0 : Int32), iv (1 : Int32), iv (2 : Int32), iv p0, rv a294, rv a309, rv a330, iv (0 : Int32), iv (0 : Int32)] []))) (fun t k => XS.istore X341.here hx rfl (hb hby at_169) rfl (l' := #[iv p0, iv p1, iv p2, rv a1, rv a26, iv (0 : Int32), iv (1 : Int32), iv (2 : Int32), iv p0, rv a294, rv a309, rv a330, iv (0 : Int32), iv (0 : Int32)]) rfl k) ?_
        refine own_go (B := (T341.setTop (mkF m 173 #[iv p0, iv p1, iv p2, rv a1, rv a26, iv (0 : Int32), iv (1 : Int32), iv (2 : Int32), iv p0, rv a294, rv a309, rv a330, iv (0 : Int32), iv (0 : Int32)] [(.int (0 : Int32))]))) (fun t k => XS.iload X341.here hx rfl (hb hby at_171) rfl k) ?_
        refine own_go (B := (T341.setTop (mkF m 175 #[iv p0, iv p1, iv p2, rv a1, rv a26, iv (0 : Int32), iv (1 : Int32), iv (2 : Int32), iv p0, rv a294, rv a309, rv a330, iv (0 : Int32), iv (0 : Int32)] [(.int (0 : Int32)), (.int (0 : Int32))]))) (fun t k => XS.iload X341.here hx rfl (hb hby at_173) rfl k) ?_
        have hc175 : (0 : Int32) = (0 : Int32) := (by decide)
        refine own_icmpY X341 hx (hb hby at_175) (pc' := 180) (by decide) (by decide) hc175 ?_
        refine own_go (B := (T341.setTop (mkF m 182 #[iv p0, iv p1, iv p2, rv a1, rv a26, iv (0 : Int32), iv (1 : Int32), iv (2 : Int32), iv p0, rv a294, rv a309, rv a330, iv (0 : Int32), iv (0 : Int32)] [(.ref a294)]))) (fun t k => XS.aload X341.here hx rfl (hb hby at_180) rfl rfl k) ?_
        refine own_go (B := (T341.setTop (mkF m 184 #[iv p0, iv p1, iv p2, rv a1, rv a26, iv (0 : Int32), iv (1 : Int32), iv (2 : Int32), iv p0, rv a294, rv a309, rv a330, iv (0 : Int32), iv (0 : Int32)] [(.ref a294), (.ref a294)]))) (fun t k => XS.aload X341.here hx rfl (hb hby at_182) rfl rfl k) ?_
        obtain ⟨cq342, kq342, qa342, qb342, qc342⟩ := isOf hZ e341 F335
        obtain ⟨_, _, ⟨T342, L342, k342, n342⟩, -, X342, ⟨Lc342, hQ342, l342, y342, z342⟩, st342⟩ := X341.virtualBack hx (y := own_y7) (z := own_y7) hown (mvT hZ w_47) (mvT hZ w_48) (notFace_of_selects (args := #[]) (mvT hZ w_50)) (mvT hZ w_50) (mvT hZ w_49) (by decide) (backOf (W := 0) (own_eqT l Z a0 hw [] a294 a294 a1 p0 p0 T330.heap n0 F335 F336 F336 F337 F337 rfl) hZ w_51 w_38 (by decide) (by decide)) qa342 qc342 (g := (mkF m 184 #[iv p0, iv p1, iv p2, rv a1, rv a26, iv (0 : Int32), iv (1 : Int32), iv (2 : Int32), iv p0, rv a294, rv a309, rv a330, iv (0 : Int32), iv (0 : Int32)] [(.ref a294), (.ref a294)])) rfl (by rw [hml]; rfl) (Steps.refl _) (argsL := [(.ref a294)]) (rest := []) (lenOf own_pd5 rfl) rfl (by show 2 * 0 + _ ≤ _; exact own_b rfl) (hb hby at_184) (fun _ _ => ⟨rfl, e341, (own_b rfl : 21 + 0 ≤ _), (own_b rfl : 43031 + 0 ≤ _)⟩)
        dsimp only [Pt.U, Pt.locs, Pt.cells, Pt.slots] at X342 l342 y342 z342 st342 hQ342
        obtain ⟨rfl, Nq342, eq342⟩ := hQ342
        obtain ⟨L342, X342, N342⟩ := own_absC (K := 21) (K' := 43031) X342 l342 y342 z342 N341 Nq342
        have e342 : T342.heap = T330.heap := eq342
        refine own_tr (B := (T342.setTop (mkF m 187 #[iv p0, iv p1, iv p2, rv a1, rv a26, iv (0 : Int32), iv (1 : Int32), iv (2 : Int32), iv p0, rv a294, rv a309, rv a330, iv (0 : Int32), iv (0 : Int32)] [(.int (1 : Int32))]))) st342 ?_
        have hc187 : ¬ (1 : Int32) = (0 : Int32) := (by decide)
        refine own_ifY X342 hx (hb hby at_187) (pc' := 192) (by decide) (by decide) hc187 ?_
        refine own_go (B := (T342.setTop (mkF m 194 #[iv p0, iv p1, iv p2, rv a1, rv a26, iv (0 : Int32), iv (1 : Int32), iv (2 : Int32), iv p0, rv a294, rv a309, rv a330, iv (0 : Int32), iv (0 : Int32)] [(.int (2 : Int32))]))) (fun t k => XS.iload X342.here hx rfl (hb hby at_192) rfl k) ?_
        have hc194 : ¬ (2 : Int32) = (0 : Int32) := (by decide)
        refine own_ifY X342 hx (hb hby at_194) (pc' := 211) (by decide) (by decide) hc194 ?_
        refine own_go (B := (T342.setTop (mkF m 212 #[iv p0, iv p1, iv p2, rv a1, rv a26, iv (0 : Int32), iv (1 : Int32), iv (2 : Int32), iv p0, rv a294, rv a309, rv a330, iv (0 : Int32), iv (0 : Int32)] [(.int (1 : Int32))]))) (fun t k => own_iconst (v := (1 : Int32)) X342.here hx rfl (hb hby at_211) (by decide) k) ?_
        exact own_retZ X342 hx hlk Bd.returns (hb hby at_212) (by decide) (own_b rfl) (own_b rfl) (Q := (own_law_Q Z p0 p1 p2 ca h0 n0)) ⟨rfl, N342⟩
      · refine own_go (B := (T39.setTop (mkF m 54 #[iv p0, iv p1, iv p2, rv a1, rv a26, iv (0 : Int32), iv (1 : Int32), iv (3 : Int32), .unset, .unset, .unset, .unset, .unset, .unset] [(.int (1 : Int32))]))) (fun t k => XS.iload X39.here hx rfl (hb hby at_52) rfl k) ?_
        have hc54 : ¬ (1 : Int32) = (0 : Int32) := (by decide)
        refine own_ifN X39 hx (hb hby at_54) (pn := 57) rfl hc54 ?_
        refine own_go (B := (T39.setTop (mkF m 58 #[iv p0, iv p1, iv p2, rv a1, rv a26, iv (0 : Int32), iv (1 : Int32), iv (3 : Int32), .unset, .unset, .unset, .unset, .unset, .unset] [(.int p0)]))) (fun t k => XS.iloadN X39.here hx rfl (hb hby at_57) rfl k) ?_
        refine own_go (B := (T39.setTop (mkF m 62 #[iv p0, iv p1, iv p2, rv a1, rv a26, iv (0 : Int32), iv (1 : Int32), iv (3 : Int32), .unset, .unset, .unset, .unset, .unset, .unset] [(.int p0)]))) (fun t k => XS.goto X39.here hx rfl (pc0 := 58) (pc' := 62) rfl (hb hby at_58) (by decide) (by decide) k) ?_
        refine own_go (B := (T39.setTop (mkF m 64 #[iv p0, iv p1, iv p2, rv a1, rv a26, iv (0 : Int32), iv (1 : Int32), iv (3 : Int32), iv p0, .unset, .unset, .unset, .unset, .unset] []))) (fun t k => XS.istore X39.here hx rfl (hb hby at_62) rfl (l' := #[iv p0, iv p1, iv p2, rv a1, rv a26, iv (0 : Int32), iv (1 : Int32), iv (3 : Int32), iv p0, .unset, .unset, .unset, .unset, .unset]) rfl k) ?_
        obtain ⟨T343, h343, X343, e343, E343, A343, D343, U343, st343⟩ := newO X39 hx hZ hown w_36 w_37 w_38 rfl (g := (mkF m 64 #[iv p0, iv p1, iv p2, rv a1, rv a26, iv (0 : Int32), iv (1 : Int32), iv (3 : Int32), iv p0, .unset, .unset, .unset, .unset, .unset] [])) rfl (hb hby at_64) (own_b rfl) (own_b rfl)
        obtain ⟨a343, ga343⟩ : ∃ z, z = T39.heap.size := ⟨_, rfl⟩
        rw [← ga343] at A343 D343 U343 st343
        refine own_go (B := (T343.setTop (mkF m 67 #[iv p0, iv p1, iv p2, rv a1, rv a26, iv (0 : Int32), iv (1 : Int32), iv (3 : Int32), iv p0, .unset, .unset, .unset, .unset, .unset] [(.ref a343)]))) st343 ?_
        have Z344 : n0 ≤ h343.size := Nat.le_trans F40 E343.1
        have K345 := Keep.ext F41 E343
        have F346 := Exa.ext E343 F42
        have F347 := Exa.ext E343 Ex39
        have gn343 : n0 ≤ a343 := Nat.le_trans F40 (Nat.le_of_eq ga343.symm)
        have ne343_a1 : a343 ≠ a1 := fun q => absurd (F42.lt) (by rw [← q, ga343]; exact Nat.lt_irrefl _)
        have ne343_a26 : a343 ≠ a26 := fun q => absurd (Ex39.lt) (by rw [← q, ga343]; exact Nat.lt_irrefl _)
        have F348 : Fld Z h343 a343 "com/example/parts_to_policy/partstopolicy/policy/PacketSet" "bdd" "Lcom/example/parts_to_policy/partstopolicy/policy/Bdd;" .null := D343 (Or.inr w_44) (ty := (.object "com/example/parts_to_policy/partstopolicy/policy/Bdd")) (by decide)
        have F349 : Fld Z h343 a343 "com/example/parts_to_policy/partstopolicy/policy/PacketSet" "node" "I" (.int (0 : Int32)) := D343 (Or.inr w_46) (ty := .int) (by decide)
        refine own_go (B := (T343.setTop (mkF m 68 #[iv p0, iv p1, iv p2, rv a1, rv a26, iv (0 : Int32), iv (1 : Int32), iv (3 : Int32), iv p0, .unset, .unset, .unset, .unset, .unset] [(.ref a343), (.ref a343)]))) (fun t k => XS.dup X343.here hx rfl (hb hby at_67) rfl rfl k) ?_
        refine own_go (B := (T343.setTop (mkF m 69 #[iv p0, iv p1, iv p2, rv a1, rv a26, iv (0 : Int32), iv (1 : Int32), iv (3 : Int32), iv p0, .unset, .unset, .unset, .unset, .unset] [(.ref a1), (.ref a343), (.ref a343)]))) (fun t k => XS.aloadN X343.here hx rfl (hb hby at_68) rfl rfl k) ?_
        refine own_go (B := (T343.setTop (mkF m 70 #[iv p0, iv p1, iv p2, rv a1, rv a26, iv (0 : Int32), iv (1 : Int32), iv (3 : Int32), iv p0, .unset, .unset, .unset, .unset, .unset] [(.int p0), (.ref a1), (.ref a343), (.ref a343)]))) (fun t k => XS.iloadN X343.here hx rfl (hb hby at_69) rfl k) ?_
        obtain ⟨_, _, ⟨T350, L350, k350, n350⟩, -, X350, ⟨Lc350, hQ350, l350, y350, z350⟩, st350⟩ := X343.specialBack hx (y := own_y6) rfl hown (mvT hZ w_39) (mvT hZ w_40) (mvT hZ w_41) (by decide) (backOf (W := 1) (own_pct l Z a0 hw [] a343 a1 p0 h343 n0 Z344 A343 gn343 F348 F349) hZ w_41 w_38 (by decide) (by decide)) (g := (mkF m 70 #[iv p0, iv p1, iv p2, rv a1, rv a26, iv (0 : Int32), iv (1 : Int32), iv (3 : Int32), iv p0, .unset, .unset, .unset, .unset, .unset] [(.int p0), (.ref a1), (.ref a343), (.ref a343)])) rfl (by rw [hml]; rfl) (Steps.refl _) (a := a343) (argsL := [(.ref a1), (.int p0)]) (rest := [(.ref a343)]) (lenOf own_pd4 rfl) rfl (by show 2 * 0 + _ ≤ _; exact own_b rfl) (hb hby at_70) (fun _ _ => ⟨rfl, e343, (own_b rfl : 19 + 0 ≤ _), (own_b rfl : 43028 + 0 ≤ _)⟩)
        dsimp only [Pt.U, Pt.locs, Pt.cells, Pt.slots] at X350 l350 y350 z350 st350 hQ350
        obtain ⟨rfl, Nq350, K350, Ex350, g0_350, g1_350⟩ := hQ350
        obtain ⟨L350, X350, N350⟩ := own_absC (K := 19) (K' := 43028) X350 l350 y350 z350 N39 Nq350
        have F351 : n0 ≤ T350.heap.size := Nat.le_trans Z344 K350.1
        have F352 := Keep.trans K345 K350 (allS (Or.inr (Nat.le_trans F41.1 (Nat.le_of_eq ga343.symm))) all0)
        have F353 := Exa.keep F346 K350
        have F354 := Exa.keep F347 K350
        have F355 := Exa.keep A343 K350
        refine own_tr (B := (T350.setTop (mkF m 73 #[iv p0, iv p1, iv p2, rv a1, rv a26, iv (0 : Int32), iv (1 : Int32), iv (3 : Int32), iv p0, .unset, .unset, .unset, .unset, .unset] [(.ref a343)]))) st350 ?_
        refine own_go (B := (T350.setTop (mkF m 75 #[iv p0, iv p1, iv p2, rv a1, rv a26, iv (0 : Int32), iv (1 : Int32), iv (3 : Int32), iv p0, rv a343, .unset, .unset, .unset, .unset] []))) (fun t k => XS.astore X350.here hx rfl (hb hby at_73) rfl rfl (l' := #[iv p0, iv p1, iv p2, rv a1, rv a26, iv (0 : Int32), iv (1 : Int32), iv (3 : Int32), iv p0, rv a343, .unset, .unset, .unset, .unset]) rfl k) ?_
        obtain ⟨T358, h358, X358, e358, E358, A358, D358, U358, st358⟩ := newO X350 hx hZ hown w_36 w_37 w_38 rfl (g := (mkF m 75 #[iv p0, iv p1, iv p2, rv a1, rv a26, iv (0 : Int32), iv (1 : Int32), iv (3 : Int32), iv p0, rv a343, .unset, .unset, .unset, .unset] [])) rfl (hb hby at_75) (own_b rfl) (own_b rfl)
        obtain ⟨a358, ga358⟩ : ∃ z, z = T350.heap.size := ⟨_, rfl⟩
        rw [← ga358] at A358 D358 U358 st358
        refine own_go (B := (T358.setTop (mkF m 78 #[iv p0, iv p1, iv p2, rv a1, rv a26, iv (0 : Int32), iv (1 : Int32), iv (3 : Int32), iv p0, rv a343, .unset, .unset, .unset, .unset] [(.ref a358)]))) st358 ?_
        have Z359 : n0 ≤ h358.size := Nat.le_trans F351 E358.1
        have K360 := Keep.ext F352 E358
        have F361 := Exa.ext E358 F353
        have F362 := Exa.ext E358 F354
        have F363 := Exa.ext E358 Ex350
        have F364 := Fld.ext E358 g0_350
        have F365 := Fld.ext E358 g1_350
        have gn358 : n0 ≤ a358 := Nat.le_trans F351 (Nat.le_of_eq ga358.symm)
        have ne358_a1 : a358 ≠ a1 := fun q => absurd (F353.lt) (by rw [← q, ga358]; exact Nat.lt_irrefl _)
        have ne358_a26 : a358 ≠ a26 := fun q => absurd (F354.lt) (by rw [← q, ga358]; exact Nat.lt_irrefl _)
        have ne358_a343 : a358 ≠ a343 := fun q => absurd (Ex350.lt) (by rw [← q, ga358]; exact Nat.lt_irrefl _)
        have F366 : Fld Z h358 a358 "com/example/parts_to_policy/partstopolicy/policy/PacketSet" "bdd" "Lcom/example/parts_to_policy/partstopolicy/policy/Bdd;" .null := D358 (Or.inr w_44) (ty := (.object "com/example/parts_to_policy/partstopolicy/policy/Bdd")) (by decide)
        have F367 : Fld Z h358 a358 "com/example/parts_to_policy/partstopolicy/policy/PacketSet" "node" "I" (.int (0 : Int32)) := D358 (Or.inr w_46) (ty := .int) (by decide)
        refine own_go (B := (T358.setTop (mkF m 79 #[iv p0, iv p1, iv p2, rv a1, rv a26, iv (0 : Int32), iv (1 : Int32), iv (3 : Int32), iv p0, rv a343, .unset, .unset, .unset, .unset] [(.ref a358), (.ref a358)]))) (fun t k => XS.dup X358.here hx rfl (hb hby at_78) rfl rfl k) ?_
        refine own_go (B := (T358.setTop (mkF m 81 #[iv p0, iv p1, iv p2, rv a1, rv a26, iv (0 : Int32), iv (1 : Int32), iv (3 : Int32), iv p0, rv a343, .unset, .unset, .unset, .unset] [(.int (0 : Int32)), (.ref a358), (.ref a358)]))) (fun t k => XS.iload X358.here hx rfl (hb hby at_79) rfl k) ?_
        have hc81 : (0 : Int32) = (0 : Int32) := (by decide)
        refine own_ifY X358 hx (hb hby at_81) (pc' := 88) (by decide) (by decide) hc81 ?_
        refine own_go (B := (T358.setTop (mkF m 90 #[iv p0, iv p1, iv p2, rv a1, rv a26, iv (0 : Int32), iv (1 : Int32), iv (3 : Int32), iv p0, rv a343, .unset, .unset, .unset, .unset] [(.ref a26), (.ref a358), (.ref a358)]))) (fun t k => XS.aload X358.here hx rfl (hb hby at_88) rfl rfl k) ?_
        refine own_go (B := (T358.setTop (mkF m 92 #[iv p0, iv p1, iv p2, rv a1, rv a26, iv (0 : Int32), iv (1 : Int32), iv (3 : Int32), iv p0, rv a343, .unset, .unset, .unset, .unset] [(.int p0), (.ref a26), (.ref a358), (.ref a358)]))) (fun t k => XS.iload X358.here hx rfl (hb hby at_90) rfl k) ?_
        obtain ⟨_, _, ⟨T368, L368, k368, n368⟩, -, X368, ⟨Lc368, hQ368, l368, y368, z368⟩, st368⟩ := X358.specialBack hx (y := own_y6) rfl hown (mvT hZ w_39) (mvT hZ w_40) (mvT hZ w_41) (by decide) (backOf (W := 1) (own_pct l Z a0 hw [] a358 a26 p0 h358 n0 Z359 A358 gn358 F366 F367) hZ w_41 w_38 (by decide) (by decide)) (g := (mkF m 92 #[iv p0, iv p1, iv p2, rv a1, rv a26, iv (0 : Int32), iv (1 : Int32), iv (3 : Int32), iv p0, rv a343, .unset, .unset, .unset, .unset] [(.int p0), (.ref a26), (.ref a358), (.ref a358)])) rfl (by rw [hml]; rfl) (Steps.refl _) (a := a358) (argsL := [(.ref a26), (.int p0)]) (rest := [(.ref a358)]) (lenOf own_pd4 rfl) rfl (by show 2 * 0 + _ ≤ _; exact own_b rfl) (hb hby at_92) (fun _ _ => ⟨rfl, e358, (own_b rfl : 20 + 0 ≤ _), (own_b rfl : 43030 + 0 ≤ _)⟩)
        dsimp only [Pt.U, Pt.locs, Pt.cells, Pt.slots] at X368 l368 y368 z368 st368 hQ368
        obtain ⟨rfl, Nq368, K368, Ex368, g0_368, g1_368⟩ := hQ368
        obtain ⟨L368, X368, N368⟩ := own_absC (K := 20) (K' := 43030) X368 l368 y368 z368 N350 Nq368
        have F369 : n0 ≤ T368.heap.size := Nat.le_trans Z359 K368.1
        have F370 := Keep.trans K360 K368 (allS (Or.inr (Nat.le_trans F352.1 (Nat.le_of_eq ga358.symm))) all0)
        have F371 := Exa.keep F361 K368
        have F372 := Exa.keep F362 K368
        have F373 := Exa.keep F363 K368
        have F374 := Fld.keep F364 K368 (ninS (Ne.symm ne358_a343) nin0)
        have F375 := Fld.keep F365 K368 (ninS (Ne.symm ne358_a343) nin0)
        have F376 := Exa.keep A358 K368
        refine own_tr (B := (T368.setTop (mkF m 95 #[iv p0, iv p1, iv p2, rv a1, rv a26, iv (0 : Int32), iv (1 : Int32), iv (3 : Int32), iv p0, rv a343, .unset, .unset, .unset, .unset] [(.ref a358)]))) st368 ?_
        refine own_go (B := (T368.setTop (mkF m 97 #[iv p0, iv p1, iv p2, rv a1, rv a26, iv (0 : Int32), iv (1 : Int32), iv (3 : Int32), iv p0, rv a343, rv a358, .unset, .unset, .unset] []))) (fun t k => XS.astore X368.here hx rfl (hb hby at_95) rfl rfl (l' := #[iv p0, iv p1, iv p2, rv a1, rv a26, iv (0 : Int32), iv (1 : Int32), iv (3 : Int32), iv p0, rv a343, rv a358, .unset, .unset, .unset]) rfl k) ?_
        refine own_go (B := (T368.setTop (mkF m 99 #[iv p0, iv p1, iv p2, rv a1, rv a26, iv (0 : Int32), iv (1 : Int32), iv (3 : Int32), iv p0, rv a343, rv a358, .unset, .unset, .unset] [(.int (3 : Int32))]))) (fun t k => XS.iload X368.here hx rfl (hb hby at_97) rfl k) ?_
        have hc99 : ¬ (3 : Int32) = (0 : Int32) := (by decide)
        refine own_ifY X368 hx (hb hby at_99) (pc' := 109) (by decide) (by decide) hc99 ?_
        refine own_go (B := (T368.setTop (mkF m 111 #[iv p0, iv p1, iv p2, rv a1, rv a26, iv (0 : Int32), iv (1 : Int32), iv (3 : Int32), iv p0, rv a343, rv a358, .unset, .unset, .unset] [(.int (3 : Int32))]))) (fun t k => XS.iload X368.here hx rfl (hb hby at_109) rfl k) ?_
        refine own_go (B := (T368.setTop (mkF m 112 #[iv p0, iv p1, iv p2, rv a1, rv a26, iv (0 : Int32), iv (1 : Int32), iv (3 : Int32), iv p0, rv a343, rv a358, .unset, .unset, .unset] [(.int (1 : Int32)), (.int (3 : Int32))]))) (fun t k => own_iconst (v := (1 : Int32)) X368.here hx rfl (hb hby at_111) (by decide) k) ?_
        have hc112 : ¬ (3 : Int32) = (1 : Int32) := (by decide)
        refine own_icmpY X368 hx (hb hby at_112) (pc' := 121) (by decide) (by decide) hc112 ?_
        refine own_go (B := (T368.setTop (mkF m 123 #[iv p0, iv p1, iv p2, rv a1, rv a26, iv (0 : Int32), iv (1 : Int32), iv (3 : Int32), iv p0, rv a343, rv a358, .unset, .unset, .unset] [(.int (3 : Int32))]))) (fun t k => XS.iload X368.here hx rfl (hb hby at_121) rfl k) ?_
        refine own_go (B := (T368.setTop (mkF m 124 #[iv p0, iv p1, iv p2, rv a1, rv a26, iv (0 : Int32), iv (1 : Int32), iv (3 : Int32), iv p0, rv a343, rv a358, .unset, .unset, .unset] [(.int (2 : Int32)), (.int (3 : Int32))]))) (fun t k => own_iconst (v := (2 : Int32)) X368.here hx rfl (hb hby at_123) (by decide) k) ?_
        have hc124 : ¬ (3 : Int32) = (2 : Int32) := (by decide)
        refine own_icmpY X368 hx (hb hby at_124) (pc' := 136) (by decide) (by decide) hc124 ?_
        refine own_go (B := (T368.setTop (mkF m 137 #[iv p0, iv p1, iv p2, rv a1, rv a26, iv (0 : Int32), iv (1 : Int32), iv (3 : Int32), iv p0, rv a343, rv a358, .unset, .unset, .unset] [(.ref a1)]))) (fun t k => XS.aloadN X368.here hx rfl (hb hby at_136) rfl rfl k) ?_
        refine own_go (B := (T368.setTop (mkF m 139 #[iv p0, iv p1, iv p2, rv a1, rv a26, iv (0 : Int32), iv (1 : Int32), iv (3 : Int32), iv p0, rv a343, rv a358, rv a1, .unset, .unset] []))) (fun t k => XS.astore X368.here hx rfl (hb hby at_137) rfl rfl (l' := #[iv p0, iv p1, iv p2, rv a1, rv a26, iv (0 : Int32), iv (1 : Int32), iv (3 : Int32), iv p0, rv a343, rv a358, rv a1, .unset, .unset]) rfl k) ?_
        refine own_go (B := (T368.setTop (mkF m 141 #[iv p0, iv p1, iv p2, rv a1, rv a26, iv (0 : Int32), iv (1 : Int32), iv (3 : Int32), iv p0, rv a343, rv a358, rv a1, .unset, .unset] [(.int (3 : Int32))]))) (fun t k => XS.iload X368.here hx rfl (hb hby at_139) rfl k) ?_
        have hc141 : ¬ (3 : Int32) = (0 : Int32) := (by decide)
        refine own_ifY X368 hx (hb hby at_141) (pc' := 159) (by decide) (by decide) hc141 ?_
        refine own_go (B := (T368.setTop (mkF m 160 #[iv p0, iv p1, iv p2, rv a1, rv a26, iv (0 : Int32), iv (1 : Int32), iv (3 : Int32), iv p0, rv a343, rv a358, rv a1, .unset, .unset] [(.int (0 : Int32))]))) (fun t k => own_iconst (v := (0 : Int32)) X368.here hx rfl (hb hby at_159) (by decide) k) ?_
        refine own_go (B := (T368.setTop (mkF m 162 #[iv p0, iv p1, iv p2, rv a1, rv a26, iv (0 : Int32), iv (1 : Int32), iv (3 : Int32), iv p0, rv a343, rv a358, rv a1, iv (0 : Int32), .unset] []))) (fun t k => XS.istore X368.here hx rfl (hb hby at_160) rfl (l' := #[iv p0, iv p1, iv p2, rv a1, rv a26, iv (0 : Int32), iv (1 : Int32), iv (3 : Int32), iv p0, rv a343, rv a358, rv a1, iv (0 : Int32), .unset]) rfl k) ?_
        refine own_go (B := (T368.setTop (mkF m 164 #[iv p0, iv p1, iv p2, rv a1, rv a26, iv (0 : Int32), iv (1 : Int32), iv (3 : Int32), iv p0, rv a343, rv a358, rv a1, iv (0 : Int32), .unset] [(.ref a343)]))) (fun t k => XS.aload X368.here hx rfl (hb hby at_162) rfl rfl k) ?_
        refine own_go (B := (T368.setTop (mkF m 166 #[iv p0, iv p1, iv p2, rv a1, rv a26, iv (0 : Int32), iv (1 : Int32), iv (3 : Int32), iv p0, rv a343, rv a358, rv a1, iv (0 : Int32), .unset] [(.ref a1), (.ref a343)]))) (fun t k => XS.aload X368.here hx rfl (hb hby at_164) rfl rfl k) ?_
        obtain ⟨cq379, kq379, qa379, qb379, qc379⟩ := isOf hZ rfl F373
        obtain ⟨_, _, ⟨T379, L379, k379, n379⟩, -, X379, ⟨Lc379, hQ379, l379, y379, z379⟩, st379⟩ := X368.virtualBack hx (y := own_y7) (z := own_y7) hown (mvT hZ w_47) (mvT hZ w_48) (notFace_of_selects (args := #[]) (mvT hZ w_50)) (mvT hZ w_50) (mvT hZ w_49) (by decide) (backOf (W := 0) (own_eqbdd l Z a0 hw [] a343 a1 T368.heap n0 F371) hZ w_51 w_38 (by decide) (by decide)) qa379 qc379 (g := (mkF m 166 #[iv p0, iv p1, iv p2, rv a1, rv a26, iv (0 : Int32), iv (1 : Int32), iv (3 : Int32), iv p0, rv a343, rv a358, rv a1, iv (0 : Int32), .unset] [(.ref a1), (.ref a343)])) rfl (by rw [hml]; rfl) (Steps.refl _) (argsL := [(.ref a1)]) (rest := []) (lenOf own_pd5 rfl) rfl (by show 2 * 0 + _ ≤ _; exact own_b rfl) (hb hby at_166) (fun _ _ => ⟨rfl, rfl, (own_b rfl : 20 + 0 ≤ _), (own_b rfl : 43030 + 0 ≤ _)⟩)
        dsimp only [Pt.U, Pt.locs, Pt.cells, Pt.slots] at X379 l379 y379 z379 st379 hQ379
        obtain ⟨rfl, Nq379, eq379⟩ := hQ379
        obtain ⟨L379, X379, N379⟩ := own_absC (K := 20) (K' := 43030) X379 l379 y379 z379 N368 Nq379
        have e379 : T379.heap = T368.heap := eq379
        refine own_tr (B := (T379.setTop (mkF m 169 #[iv p0, iv p1, iv p2, rv a1, rv a26, iv (0 : Int32), iv (1 : Int32), iv (3 : Int32), iv p0, rv a343, rv a358, rv a1, iv (0 : Int32), .unset] [(.int (0 : Int32))]))) st379 ?_
        refine own_go (B := (T379.setTop (mkF m 171 #[iv p0, iv p1, iv p2, rv a1, rv a26, iv (0 : Int32), iv (1 : Int32), iv (3 : Int32), iv p0, rv a343, rv a358, rv a1, iv (0 : Int32), iv (0 : Int32)] []))) (fun t k => XS.istore X379.here hx rfl (hb hby at_169) rfl (l' := #[iv p0, iv p1, iv p2, rv a1, rv a26, iv (0 : Int32), iv (1 : Int32), iv (3 : Int32), iv p0, rv a343, rv a358, rv a1, iv (0 : Int32), iv (0 : Int32)]) rfl k) ?_
        refine own_go (B := (T379.setTop (mkF m 173 #[iv p0, iv p1, iv p2, rv a1, rv a26, iv (0 : Int32), iv (1 : Int32), iv (3 : Int32), iv p0, rv a343, rv a358, rv a1, iv (0 : Int32), iv (0 : Int32)] [(.int (0 : Int32))]))) (fun t k => XS.iload X379.here hx rfl (hb hby at_171) rfl k) ?_
        refine own_go (B := (T379.setTop (mkF m 175 #[iv p0, iv p1, iv p2, rv a1, rv a26, iv (0 : Int32), iv (1 : Int32), iv (3 : Int32), iv p0, rv a343, rv a358, rv a1, iv (0 : Int32), iv (0 : Int32)] [(.int (0 : Int32)), (.int (0 : Int32))]))) (fun t k => XS.iload X379.here hx rfl (hb hby at_173) rfl k) ?_
        have hc175 : (0 : Int32) = (0 : Int32) := (by decide)
        refine own_icmpY X379 hx (hb hby at_175) (pc' := 180) (by decide) (by decide) hc175 ?_
        refine own_go (B := (T379.setTop (mkF m 182 #[iv p0, iv p1, iv p2, rv a1, rv a26, iv (0 : Int32), iv (1 : Int32), iv (3 : Int32), iv p0, rv a343, rv a358, rv a1, iv (0 : Int32), iv (0 : Int32)] [(.ref a343)]))) (fun t k => XS.aload X379.here hx rfl (hb hby at_180) rfl rfl k) ?_
        refine own_go (B := (T379.setTop (mkF m 184 #[iv p0, iv p1, iv p2, rv a1, rv a26, iv (0 : Int32), iv (1 : Int32), iv (3 : Int32), iv p0, rv a343, rv a358, rv a1, iv (0 : Int32), iv (0 : Int32)] [(.ref a343), (.ref a343)]))) (fun t k => XS.aload X379.here hx rfl (hb hby at_182) rfl rfl k) ?_
        obtain ⟨cq380, kq380, qa380, qb380, qc380⟩ := isOf hZ e379 F373
        obtain ⟨_, _, ⟨T380, L380, k380, n380⟩, -, X380, ⟨Lc380, hQ380, l380, y380, z380⟩, st380⟩ := X379.virtualBack hx (y := own_y7) (z := own_y7) hown (mvT hZ w_47) (mvT hZ w_48) (notFace_of_selects (args := #[]) (mvT hZ w_50)) (mvT hZ w_50) (mvT hZ w_49) (by decide) (backOf (W := 0) (own_eqT l Z a0 hw [] a343 a343 a1 p0 p0 T368.heap n0 F373 F374 F374 F375 F375 rfl) hZ w_51 w_38 (by decide) (by decide)) qa380 qc380 (g := (mkF m 184 #[iv p0, iv p1, iv p2, rv a1, rv a26, iv (0 : Int32), iv (1 : Int32), iv (3 : Int32), iv p0, rv a343, rv a358, rv a1, iv (0 : Int32), iv (0 : Int32)] [(.ref a343), (.ref a343)])) rfl (by rw [hml]; rfl) (Steps.refl _) (argsL := [(.ref a343)]) (rest := []) (lenOf own_pd5 rfl) rfl (by show 2 * 0 + _ ≤ _; exact own_b rfl) (hb hby at_184) (fun _ _ => ⟨rfl, e379, (own_b rfl : 20 + 0 ≤ _), (own_b rfl : 43030 + 0 ≤ _)⟩)
        dsimp only [Pt.U, Pt.locs, Pt.cells, Pt.slots] at X380 l380 y380 z380 st380 hQ380
        obtain ⟨rfl, Nq380, eq380⟩ := hQ380
        obtain ⟨L380, X380, N380⟩ := own_absC (K := 20) (K' := 43030) X380 l380 y380 z380 N379 Nq380
        have e380 : T380.heap = T368.heap := eq380
        refine own_tr (B := (T380.setTop (mkF m 187 #[iv p0, iv p1, iv p2, rv a1, rv a26, iv (0 : Int32), iv (1 : Int32), iv (3 : Int32), iv p0, rv a343, rv a358, rv a1, iv (0 : Int32), iv (0 : Int32)] [(.int (1 : Int32))]))) st380 ?_
        have hc187 : ¬ (1 : Int32) = (0 : Int32) := (by decide)
        refine own_ifY X380 hx (hb hby at_187) (pc' := 192) (by decide) (by decide) hc187 ?_
        refine own_go (B := (T380.setTop (mkF m 194 #[iv p0, iv p1, iv p2, rv a1, rv a26, iv (0 : Int32), iv (1 : Int32), iv (3 : Int32), iv p0, rv a343, rv a358, rv a1, iv (0 : Int32), iv (0 : Int32)] [(.int (3 : Int32))]))) (fun t k => XS.iload X380.here hx rfl (hb hby at_192) rfl k) ?_
        have hc194 : ¬ (3 : Int32) = (0 : Int32) := (by decide)
        refine own_ifY X380 hx (hb hby at_194) (pc' := 211) (by decide) (by decide) hc194 ?_
        refine own_go (B := (T380.setTop (mkF m 212 #[iv p0, iv p1, iv p2, rv a1, rv a26, iv (0 : Int32), iv (1 : Int32), iv (3 : Int32), iv p0, rv a343, rv a358, rv a1, iv (0 : Int32), iv (0 : Int32)] [(.int (1 : Int32))]))) (fun t k => own_iconst (v := (1 : Int32)) X380.here hx rfl (hb hby at_211) (by decide) k) ?_
        exact own_retZ X380 hx hlk Bd.returns (hb hby at_212) (by decide) (own_b rfl) (own_b rfl) (Q := (own_law_Q Z p0 p1 p2 ca h0 n0)) ⟨rfl, N380⟩
  · refine own_go (B := (T39.setTop (mkF m 26 #[iv p0, iv p1, iv p2, rv a1, rv a26, .unset, .unset, .unset, .unset, .unset, .unset, .unset, .unset, .unset] [(.int (1 : Int32))]))) (fun t k => own_iconst (v := (1 : Int32)) X39.here hx rfl (hb hby at_25) (by decide) k) ?_
    refine own_go (B := (T39.setTop (mkF m 30 #[iv p0, iv p1, iv p2, rv a1, rv a26, .unset, .unset, .unset, .unset, .unset, .unset, .unset, .unset, .unset] [(.int (1 : Int32))]))) (fun t k => XS.goto X39.here hx rfl (pc0 := 26) (pc' := 30) rfl (hb hby at_26) (by decide) (by decide) k) ?_
    refine own_go (B := (T39.setTop (mkF m 32 #[iv p0, iv p1, iv p2, rv a1, rv a26, iv (1 : Int32), .unset, .unset, .unset, .unset, .unset, .unset, .unset, .unset] []))) (fun t k => XS.istore X39.here hx rfl (hb hby at_30) rfl (l' := #[iv p0, iv p1, iv p2, rv a1, rv a26, iv (1 : Int32), .unset, .unset, .unset, .unset, .unset, .unset, .unset, .unset]) rfl k) ?_
    refine own_go (B := (T39.setTop (mkF m 33 #[iv p0, iv p1, iv p2, rv a1, rv a26, iv (1 : Int32), .unset, .unset, .unset, .unset, .unset, .unset, .unset, .unset] [(.int p2)]))) (fun t k => XS.iloadN X39.here hx rfl (hb hby at_32) rfl k) ?_
    refine own_go (B := (T39.setTop (mkF m 34 #[iv p0, iv p1, iv p2, rv a1, rv a26, iv (1 : Int32), .unset, .unset, .unset, .unset, .unset, .unset, .unset, .unset] [(.int (2 : Int32)), (.int p2)]))) (fun t k => own_iconst (v := (2 : Int32)) X39.here hx rfl (hb hby at_33) (by decide) k) ?_
    refine own_go (B := (T39.setTop (mkF m 35 #[iv p0, iv p1, iv p2, rv a1, rv a26, iv (1 : Int32), .unset, .unset, .unset, .unset, .unset, .unset, .unset, .unset] [(.int (p2 &&& (2 : Int32)))]))) (fun t k => XS.iand (x := p2) (y := (2 : Int32)) X39.here hx rfl (hb hby at_34) rfl k) ?_
    refine own_if X39 hx (hb hby at_35) (pc' := 42) (pn := 38) (by decide) (by decide) rfl (fun (hc35 : (p2 &&& (2 : Int32)) = (0 : Int32)) => ?_) (fun (hc35 : ¬ (p2 &&& (2 : Int32)) = (0 : Int32)) => ?_)
    · refine own_go (B := (T39.setTop (mkF m 43 #[iv p0, iv p1, iv p2, rv a1, rv a26, iv (1 : Int32), .unset, .unset, .unset, .unset, .unset, .unset, .unset, .unset] [(.int (0 : Int32))]))) (fun t k => own_iconst (v := (0 : Int32)) X39.here hx rfl (hb hby at_42) (by decide) k) ?_
      refine own_go (B := (T39.setTop (mkF m 45 #[iv p0, iv p1, iv p2, rv a1, rv a26, iv (1 : Int32), iv (0 : Int32), .unset, .unset, .unset, .unset, .unset, .unset, .unset] []))) (fun t k => XS.istore X39.here hx rfl (hb hby at_43) rfl (l' := #[iv p0, iv p1, iv p2, rv a1, rv a26, iv (1 : Int32), iv (0 : Int32), .unset, .unset, .unset, .unset, .unset, .unset, .unset]) rfl k) ?_
      refine own_go (B := (T39.setTop (mkF m 46 #[iv p0, iv p1, iv p2, rv a1, rv a26, iv (1 : Int32), iv (0 : Int32), .unset, .unset, .unset, .unset, .unset, .unset, .unset] [(.int p2)]))) (fun t k => XS.iloadN X39.here hx rfl (hb hby at_45) rfl k) ?_
      refine own_go (B := (T39.setTop (mkF m 47 #[iv p0, iv p1, iv p2, rv a1, rv a26, iv (1 : Int32), iv (0 : Int32), .unset, .unset, .unset, .unset, .unset, .unset, .unset] [(.int (2 : Int32)), (.int p2)]))) (fun t k => own_iconst (v := (2 : Int32)) X39.here hx rfl (hb hby at_46) (by decide) k) ?_
      refine own_go (B := (T39.setTop (mkF m 48 #[iv p0, iv p1, iv p2, rv a1, rv a26, iv (1 : Int32), iv (0 : Int32), .unset, .unset, .unset, .unset, .unset, .unset, .unset] [(.int ((p2.toUInt32 >>> ((2 : Int32) &&& 31).toUInt32).toInt32))]))) (fun t k => XS.iushr (x := p2) (y := (2 : Int32)) X39.here hx rfl (hb hby at_47) rfl k) ?_
      refine own_go (B := (T39.setTop (mkF m 49 #[iv p0, iv p1, iv p2, rv a1, rv a26, iv (1 : Int32), iv (0 : Int32), .unset, .unset, .unset, .unset, .unset, .unset, .unset] [(.int (3 : Int32)), (.int ((p2.toUInt32 >>> ((2 : Int32) &&& 31).toUInt32).toInt32))]))) (fun t k => own_iconst (v := (3 : Int32)) X39.here hx rfl (hb hby at_48) (by decide) k) ?_
      refine own_go (B := (T39.setTop (mkF m 50 #[iv p0, iv p1, iv p2, rv a1, rv a26, iv (1 : Int32), iv (0 : Int32), .unset, .unset, .unset, .unset, .unset, .unset, .unset] [(.int (((p2.toUInt32 >>> ((2 : Int32) &&& 31).toUInt32).toInt32) &&& (3 : Int32)))]))) (fun t k => XS.iand (x := ((p2.toUInt32 >>> ((2 : Int32) &&& 31).toUInt32).toInt32)) (y := (3 : Int32)) X39.here hx rfl (hb hby at_49) rfl k) ?_
      obtain ⟨z50, hz50⟩ : ∃ z : Int32, z = (((p2.toUInt32 >>> ((2 : Int32) &&& 31).toUInt32).toInt32) &&& (3 : Int32)) := ⟨_, rfl⟩
      rw [← hz50]
      refine own_go (B := (T39.setTop (mkF m 52 #[iv p0, iv p1, iv p2, rv a1, rv a26, iv (1 : Int32), iv (0 : Int32), iv z50, .unset, .unset, .unset, .unset, .unset, .unset] []))) (fun t k => XS.istore X39.here hx rfl (hb hby at_50) rfl (l' := #[iv p0, iv p1, iv p2, rv a1, rv a26, iv (1 : Int32), iv (0 : Int32), iv z50, .unset, .unset, .unset, .unset, .unset, .unset]) rfl k) ?_
      rcases own_c4 hz50 with rfl | rfl | rfl | rfl
      · refine own_go (B := (T39.setTop (mkF m 54 #[iv p0, iv p1, iv p2, rv a1, rv a26, iv (1 : Int32), iv (0 : Int32), iv (0 : Int32), .unset, .unset, .unset, .unset, .unset, .unset] [(.int (0 : Int32))]))) (fun t k => XS.iload X39.here hx rfl (hb hby at_52) rfl k) ?_
        have hc54 : (0 : Int32) = (0 : Int32) := (by decide)
        refine own_ifY X39 hx (hb hby at_54) (pc' := 61) (by decide) (by decide) hc54 ?_
        refine own_go (B := (T39.setTop (mkF m 62 #[iv p0, iv p1, iv p2, rv a1, rv a26, iv (1 : Int32), iv (0 : Int32), iv (0 : Int32), .unset, .unset, .unset, .unset, .unset, .unset] [(.int p1)]))) (fun t k => XS.iloadN X39.here hx rfl (hb hby at_61) rfl k) ?_
        refine own_go (B := (T39.setTop (mkF m 64 #[iv p0, iv p1, iv p2, rv a1, rv a26, iv (1 : Int32), iv (0 : Int32), iv (0 : Int32), iv p1, .unset, .unset, .unset, .unset, .unset] []))) (fun t k => XS.istore X39.here hx rfl (hb hby at_62) rfl (l' := #[iv p0, iv p1, iv p2, rv a1, rv a26, iv (1 : Int32), iv (0 : Int32), iv (0 : Int32), iv p1, .unset, .unset, .unset, .unset, .unset]) rfl k) ?_
        obtain ⟨T381, h381, X381, e381, E381, A381, D381, U381, st381⟩ := newO X39 hx hZ hown w_36 w_37 w_38 rfl (g := (mkF m 64 #[iv p0, iv p1, iv p2, rv a1, rv a26, iv (1 : Int32), iv (0 : Int32), iv (0 : Int32), iv p1, .unset, .unset, .unset, .unset, .unset] [])) rfl (hb hby at_64) (own_b rfl) (own_b rfl)
        obtain ⟨a381, ga381⟩ : ∃ z, z = T39.heap.size := ⟨_, rfl⟩
        rw [← ga381] at A381 D381 U381 st381
        refine own_go (B := (T381.setTop (mkF m 67 #[iv p0, iv p1, iv p2, rv a1, rv a26, iv (1 : Int32), iv (0 : Int32), iv (0 : Int32), iv p1, .unset, .unset, .unset, .unset, .unset] [(.ref a381)]))) st381 ?_
        have Z382 : n0 ≤ h381.size := Nat.le_trans F40 E381.1
        have K383 := Keep.ext F41 E381
        have F384 := Exa.ext E381 F42
        have F385 := Exa.ext E381 Ex39
        have gn381 : n0 ≤ a381 := Nat.le_trans F40 (Nat.le_of_eq ga381.symm)
        have ne381_a1 : a381 ≠ a1 := fun q => absurd (F42.lt) (by rw [← q, ga381]; exact Nat.lt_irrefl _)
        have ne381_a26 : a381 ≠ a26 := fun q => absurd (Ex39.lt) (by rw [← q, ga381]; exact Nat.lt_irrefl _)
        have F386 : Fld Z h381 a381 "com/example/parts_to_policy/partstopolicy/policy/PacketSet" "bdd" "Lcom/example/parts_to_policy/partstopolicy/policy/Bdd;" .null := D381 (Or.inr w_44) (ty := (.object "com/example/parts_to_policy/partstopolicy/policy/Bdd")) (by decide)
        have F387 : Fld Z h381 a381 "com/example/parts_to_policy/partstopolicy/policy/PacketSet" "node" "I" (.int (0 : Int32)) := D381 (Or.inr w_46) (ty := .int) (by decide)
        refine own_go (B := (T381.setTop (mkF m 68 #[iv p0, iv p1, iv p2, rv a1, rv a26, iv (1 : Int32), iv (0 : Int32), iv (0 : Int32), iv p1, .unset, .unset, .unset, .unset, .unset] [(.ref a381), (.ref a381)]))) (fun t k => XS.dup X381.here hx rfl (hb hby at_67) rfl rfl k) ?_
        refine own_go (B := (T381.setTop (mkF m 69 #[iv p0, iv p1, iv p2, rv a1, rv a26, iv (1 : Int32), iv (0 : Int32), iv (0 : Int32), iv p1, .unset, .unset, .unset, .unset, .unset] [(.ref a1), (.ref a381), (.ref a381)]))) (fun t k => XS.aloadN X381.here hx rfl (hb hby at_68) rfl rfl k) ?_
        refine own_go (B := (T381.setTop (mkF m 70 #[iv p0, iv p1, iv p2, rv a1, rv a26, iv (1 : Int32), iv (0 : Int32), iv (0 : Int32), iv p1, .unset, .unset, .unset, .unset, .unset] [(.int p0), (.ref a1), (.ref a381), (.ref a381)]))) (fun t k => XS.iloadN X381.here hx rfl (hb hby at_69) rfl k) ?_
        obtain ⟨_, _, ⟨T388, L388, k388, n388⟩, -, X388, ⟨Lc388, hQ388, l388, y388, z388⟩, st388⟩ := X381.specialBack hx (y := own_y6) rfl hown (mvT hZ w_39) (mvT hZ w_40) (mvT hZ w_41) (by decide) (backOf (W := 1) (own_pct l Z a0 hw [] a381 a1 p0 h381 n0 Z382 A381 gn381 F386 F387) hZ w_41 w_38 (by decide) (by decide)) (g := (mkF m 70 #[iv p0, iv p1, iv p2, rv a1, rv a26, iv (1 : Int32), iv (0 : Int32), iv (0 : Int32), iv p1, .unset, .unset, .unset, .unset, .unset] [(.int p0), (.ref a1), (.ref a381), (.ref a381)])) rfl (by rw [hml]; rfl) (Steps.refl _) (a := a381) (argsL := [(.ref a1), (.int p0)]) (rest := [(.ref a381)]) (lenOf own_pd4 rfl) rfl (by show 2 * 0 + _ ≤ _; exact own_b rfl) (hb hby at_70) (fun _ _ => ⟨rfl, e381, (own_b rfl : 19 + 0 ≤ _), (own_b rfl : 43028 + 0 ≤ _)⟩)
        dsimp only [Pt.U, Pt.locs, Pt.cells, Pt.slots] at X388 l388 y388 z388 st388 hQ388
        obtain ⟨rfl, Nq388, K388, Ex388, g0_388, g1_388⟩ := hQ388
        obtain ⟨L388, X388, N388⟩ := own_absC (K := 19) (K' := 43028) X388 l388 y388 z388 N39 Nq388
        have F389 : n0 ≤ T388.heap.size := Nat.le_trans Z382 K388.1
        have F390 := Keep.trans K383 K388 (allS (Or.inr (Nat.le_trans F41.1 (Nat.le_of_eq ga381.symm))) all0)
        have F391 := Exa.keep F384 K388
        have F392 := Exa.keep F385 K388
        have F393 := Exa.keep A381 K388
        refine own_tr (B := (T388.setTop (mkF m 73 #[iv p0, iv p1, iv p2, rv a1, rv a26, iv (1 : Int32), iv (0 : Int32), iv (0 : Int32), iv p1, .unset, .unset, .unset, .unset, .unset] [(.ref a381)]))) st388 ?_
        refine own_go (B := (T388.setTop (mkF m 75 #[iv p0, iv p1, iv p2, rv a1, rv a26, iv (1 : Int32), iv (0 : Int32), iv (0 : Int32), iv p1, rv a381, .unset, .unset, .unset, .unset] []))) (fun t k => XS.astore X388.here hx rfl (hb hby at_73) rfl rfl (l' := #[iv p0, iv p1, iv p2, rv a1, rv a26, iv (1 : Int32), iv (0 : Int32), iv (0 : Int32), iv p1, rv a381, .unset, .unset, .unset, .unset]) rfl k) ?_
        obtain ⟨T396, h396, X396, e396, E396, A396, D396, U396, st396⟩ := newO X388 hx hZ hown w_36 w_37 w_38 rfl (g := (mkF m 75 #[iv p0, iv p1, iv p2, rv a1, rv a26, iv (1 : Int32), iv (0 : Int32), iv (0 : Int32), iv p1, rv a381, .unset, .unset, .unset, .unset] [])) rfl (hb hby at_75) (own_b rfl) (own_b rfl)
        obtain ⟨a396, ga396⟩ : ∃ z, z = T388.heap.size := ⟨_, rfl⟩
        rw [← ga396] at A396 D396 U396 st396
        refine own_go (B := (T396.setTop (mkF m 78 #[iv p0, iv p1, iv p2, rv a1, rv a26, iv (1 : Int32), iv (0 : Int32), iv (0 : Int32), iv p1, rv a381, .unset, .unset, .unset, .unset] [(.ref a396)]))) st396 ?_
        have Z397 : n0 ≤ h396.size := Nat.le_trans F389 E396.1
        have K398 := Keep.ext F390 E396
        have F399 := Exa.ext E396 F391
        have F400 := Exa.ext E396 F392
        have F401 := Exa.ext E396 Ex388
        have F402 := Fld.ext E396 g0_388
        have F403 := Fld.ext E396 g1_388
        have gn396 : n0 ≤ a396 := Nat.le_trans F389 (Nat.le_of_eq ga396.symm)
        have ne396_a1 : a396 ≠ a1 := fun q => absurd (F391.lt) (by rw [← q, ga396]; exact Nat.lt_irrefl _)
        have ne396_a26 : a396 ≠ a26 := fun q => absurd (F392.lt) (by rw [← q, ga396]; exact Nat.lt_irrefl _)
        have ne396_a381 : a396 ≠ a381 := fun q => absurd (Ex388.lt) (by rw [← q, ga396]; exact Nat.lt_irrefl _)
        have F404 : Fld Z h396 a396 "com/example/parts_to_policy/partstopolicy/policy/PacketSet" "bdd" "Lcom/example/parts_to_policy/partstopolicy/policy/Bdd;" .null := D396 (Or.inr w_44) (ty := (.object "com/example/parts_to_policy/partstopolicy/policy/Bdd")) (by decide)
        have F405 : Fld Z h396 a396 "com/example/parts_to_policy/partstopolicy/policy/PacketSet" "node" "I" (.int (0 : Int32)) := D396 (Or.inr w_46) (ty := .int) (by decide)
        refine own_go (B := (T396.setTop (mkF m 79 #[iv p0, iv p1, iv p2, rv a1, rv a26, iv (1 : Int32), iv (0 : Int32), iv (0 : Int32), iv p1, rv a381, .unset, .unset, .unset, .unset] [(.ref a396), (.ref a396)]))) (fun t k => XS.dup X396.here hx rfl (hb hby at_78) rfl rfl k) ?_
        refine own_go (B := (T396.setTop (mkF m 81 #[iv p0, iv p1, iv p2, rv a1, rv a26, iv (1 : Int32), iv (0 : Int32), iv (0 : Int32), iv p1, rv a381, .unset, .unset, .unset, .unset] [(.int (1 : Int32)), (.ref a396), (.ref a396)]))) (fun t k => XS.iload X396.here hx rfl (hb hby at_79) rfl k) ?_
        have hc81 : ¬ (1 : Int32) = (0 : Int32) := (by decide)
        refine own_ifN X396 hx (hb hby at_81) (pn := 84) rfl hc81 ?_
        refine own_go (B := (T396.setTop (mkF m 85 #[iv p0, iv p1, iv p2, rv a1, rv a26, iv (1 : Int32), iv (0 : Int32), iv (0 : Int32), iv p1, rv a381, .unset, .unset, .unset, .unset] [(.ref a1), (.ref a396), (.ref a396)]))) (fun t k => XS.aloadN X396.here hx rfl (hb hby at_84) rfl rfl k) ?_
        refine own_go (B := (T396.setTop (mkF m 90 #[iv p0, iv p1, iv p2, rv a1, rv a26, iv (1 : Int32), iv (0 : Int32), iv (0 : Int32), iv p1, rv a381, .unset, .unset, .unset, .unset] [(.ref a1), (.ref a396), (.ref a396)]))) (fun t k => XS.goto X396.here hx rfl (pc0 := 85) (pc' := 90) rfl (hb hby at_85) (by decide) (by decide) k) ?_
        refine own_go (B := (T396.setTop (mkF m 92 #[iv p0, iv p1, iv p2, rv a1, rv a26, iv (1 : Int32), iv (0 : Int32), iv (0 : Int32), iv p1, rv a381, .unset, .unset, .unset, .unset] [(.int p1), (.ref a1), (.ref a396), (.ref a396)]))) (fun t k => XS.iload X396.here hx rfl (hb hby at_90) rfl k) ?_
        obtain ⟨_, _, ⟨T406, L406, k406, n406⟩, -, X406, ⟨Lc406, hQ406, l406, y406, z406⟩, st406⟩ := X396.specialBack hx (y := own_y6) rfl hown (mvT hZ w_39) (mvT hZ w_40) (mvT hZ w_41) (by decide) (backOf (W := 1) (own_pct l Z a0 hw [] a396 a1 p1 h396 n0 Z397 A396 gn396 F404 F405) hZ w_41 w_38 (by decide) (by decide)) (g := (mkF m 92 #[iv p0, iv p1, iv p2, rv a1, rv a26, iv (1 : Int32), iv (0 : Int32), iv (0 : Int32), iv p1, rv a381, .unset, .unset, .unset, .unset] [(.int p1), (.ref a1), (.ref a396), (.ref a396)])) rfl (by rw [hml]; rfl) (Steps.refl _) (a := a396) (argsL := [(.ref a1), (.int p1)]) (rest := [(.ref a396)]) (lenOf own_pd4 rfl) rfl (by show 2 * 0 + _ ≤ _; exact own_b rfl) (hb hby at_92) (fun _ _ => ⟨rfl, e396, (own_b rfl : 20 + 0 ≤ _), (own_b rfl : 43030 + 0 ≤ _)⟩)
        dsimp only [Pt.U, Pt.locs, Pt.cells, Pt.slots] at X406 l406 y406 z406 st406 hQ406
        obtain ⟨rfl, Nq406, K406, Ex406, g0_406, g1_406⟩ := hQ406
        obtain ⟨L406, X406, N406⟩ := own_absC (K := 20) (K' := 43030) X406 l406 y406 z406 N388 Nq406
        have F407 : n0 ≤ T406.heap.size := Nat.le_trans Z397 K406.1
        have F408 := Keep.trans K398 K406 (allS (Or.inr (Nat.le_trans F390.1 (Nat.le_of_eq ga396.symm))) all0)
        have F409 := Exa.keep F399 K406
        have F410 := Exa.keep F400 K406
        have F411 := Exa.keep F401 K406
        have F412 := Fld.keep F402 K406 (ninS (Ne.symm ne396_a381) nin0)
        have F413 := Fld.keep F403 K406 (ninS (Ne.symm ne396_a381) nin0)
        have F414 := Exa.keep A396 K406
        refine own_tr (B := (T406.setTop (mkF m 95 #[iv p0, iv p1, iv p2, rv a1, rv a26, iv (1 : Int32), iv (0 : Int32), iv (0 : Int32), iv p1, rv a381, .unset, .unset, .unset, .unset] [(.ref a396)]))) st406 ?_
        refine own_go (B := (T406.setTop (mkF m 97 #[iv p0, iv p1, iv p2, rv a1, rv a26, iv (1 : Int32), iv (0 : Int32), iv (0 : Int32), iv p1, rv a381, rv a396, .unset, .unset, .unset] []))) (fun t k => XS.astore X406.here hx rfl (hb hby at_95) rfl rfl (l' := #[iv p0, iv p1, iv p2, rv a1, rv a26, iv (1 : Int32), iv (0 : Int32), iv (0 : Int32), iv p1, rv a381, rv a396, .unset, .unset, .unset]) rfl k) ?_
        refine own_go (B := (T406.setTop (mkF m 99 #[iv p0, iv p1, iv p2, rv a1, rv a26, iv (1 : Int32), iv (0 : Int32), iv (0 : Int32), iv p1, rv a381, rv a396, .unset, .unset, .unset] [(.int (0 : Int32))]))) (fun t k => XS.iload X406.here hx rfl (hb hby at_97) rfl k) ?_
        have hc99 : (0 : Int32) = (0 : Int32) := (by decide)
        refine own_ifN X406 hx (hb hby at_99) (pn := 102) rfl hc99 ?_
        refine own_go (B := (T406.setTop (mkF m 104 #[iv p0, iv p1, iv p2, rv a1, rv a26, iv (1 : Int32), iv (0 : Int32), iv (0 : Int32), iv p1, rv a381, rv a396, .unset, .unset, .unset] [(.ref a396)]))) (fun t k => XS.aload X406.here hx rfl (hb hby at_102) rfl rfl k) ?_
        refine own_go (B := (T406.setTop (mkF m 106 #[iv p0, iv p1, iv p2, rv a1, rv a26, iv (1 : Int32), iv (0 : Int32), iv (0 : Int32), iv p1, rv a381, rv a396, rv a396, .unset, .unset] []))) (fun t k => XS.astore X406.here hx rfl (hb hby at_104) rfl rfl (l' := #[iv p0, iv p1, iv p2, rv a1, rv a26, iv (1 : Int32), iv (0 : Int32), iv (0 : Int32), iv p1, rv a381, rv a396, rv a396, .unset, .unset]) rfl k) ?_
        refine own_go (B := (T406.setTop (mkF m 139 #[iv p0, iv p1, iv p2, rv a1, rv a26, iv (1 : Int32), iv (0 : Int32), iv (0 : Int32), iv p1, rv a381, rv a396, rv a396, .unset, .unset] []))) (fun t k => XS.goto X406.here hx rfl (pc0 := 106) (pc' := 139) rfl (hb hby at_106) (by decide) (by decide) k) ?_
        refine own_go (B := (T406.setTop (mkF m 141 #[iv p0, iv p1, iv p2, rv a1, rv a26, iv (1 : Int32), iv (0 : Int32), iv (0 : Int32), iv p1, rv a381, rv a396, rv a396, .unset, .unset] [(.int (0 : Int32))]))) (fun t k => XS.iload X406.here hx rfl (hb hby at_139) rfl k) ?_
        have hc141 : (0 : Int32) = (0 : Int32) := (by decide)
        refine own_ifN X406 hx (hb hby at_141) (pn := 144) rfl hc141 ?_
        refine own_go (B := (T406.setTop (mkF m 146 #[iv p0, iv p1, iv p2, rv a1, rv a26, iv (1 : Int32), iv (0 : Int32), iv (0 : Int32), iv p1, rv a381, rv a396, rv a396, .unset, .unset] [(.int (1 : Int32))]))) (fun t k => XS.iload X406.here hx rfl (hb hby at_144) rfl k) ?_
        have hc146 : ¬ (1 : Int32) = (0 : Int32) := (by decide)
        refine own_ifN X406 hx (hb hby at_146) (pn := 149) rfl hc146 ?_
        refine own_go (B := (T406.setTop (mkF m 151 #[iv p0, iv p1, iv p2, rv a1, rv a26, iv (1 : Int32), iv (0 : Int32), iv (0 : Int32), iv p1, rv a381, rv a396, rv a396, .unset, .unset] [(.int p1)]))) (fun t k => XS.iload X406.here hx rfl (hb hby at_149) rfl k) ?_
        refine own_go (B := (T406.setTop (mkF m 152 #[iv p0, iv p1, iv p2, rv a1, rv a26, iv (1 : Int32), iv (0 : Int32), iv (0 : Int32), iv p1, rv a381, rv a396, rv a396, .unset, .unset] [(.int p0), (.int p1)]))) (fun t k => XS.iloadN X406.here hx rfl (hb hby at_151) rfl k) ?_
        refine own_icmp X406 hx (hb hby at_152) (pc' := 159) (pn := 155) (by decide) (by decide) rfl (fun (hc152 : ¬ p1 = p0) => ?_) (fun (hc152 : p1 = p0) => ?_)
        · refine own_go (B := (T406.setTop (mkF m 160 #[iv p0, iv p1, iv p2, rv a1, rv a26, iv (1 : Int32), iv (0 : Int32), iv (0 : Int32), iv p1, rv a381, rv a396, rv a396, .unset, .unset] [(.int (0 : Int32))]))) (fun t k => own_iconst (v := (0 : Int32)) X406.here hx rfl (hb hby at_159) (by decide) k) ?_
          refine own_go (B := (T406.setTop (mkF m 162 #[iv p0, iv p1, iv p2, rv a1, rv a26, iv (1 : Int32), iv (0 : Int32), iv (0 : Int32), iv p1, rv a381, rv a396, rv a396, iv (0 : Int32), .unset] []))) (fun t k => XS.istore X406.here hx rfl (hb hby at_160) rfl (l' := #[iv p0, iv p1, iv p2, rv a1, rv a26, iv (1 : Int32), iv (0 : Int32), iv (0 : Int32), iv p1, rv a381, rv a396, rv a396, iv (0 : Int32), .unset]) rfl k) ?_
          refine own_go (B := (T406.setTop (mkF m 164 #[iv p0, iv p1, iv p2, rv a1, rv a26, iv (1 : Int32), iv (0 : Int32), iv (0 : Int32), iv p1, rv a381, rv a396, rv a396, iv (0 : Int32), .unset] [(.ref a381)]))) (fun t k => XS.aload X406.here hx rfl (hb hby at_162) rfl rfl k) ?_
          refine own_go (B := (T406.setTop (mkF m 166 #[iv p0, iv p1, iv p2, rv a1, rv a26, iv (1 : Int32), iv (0 : Int32), iv (0 : Int32), iv p1, rv a381, rv a396, rv a396, iv (0 : Int32), .unset] [(.ref a396), (.ref a381)]))) (fun t k => XS.aload X406.here hx rfl (hb hby at_164) rfl rfl k) ?_
          obtain ⟨cq417, kq417, qa417, qb417, qc417⟩ := isOf hZ rfl F411
          obtain ⟨_, _, ⟨T417, L417, k417, n417⟩, -, X417, ⟨Lc417, hQ417, l417, y417, z417⟩, st417⟩ := X406.virtualBack hx (y := own_y7) (z := own_y7) hown (mvT hZ w_47) (mvT hZ w_48) (notFace_of_selects (args := #[]) (mvT hZ w_50)) (mvT hZ w_50) (mvT hZ w_49) (by decide) (backOf (W := 0) (own_eqN l Z a0 hw [] a381 a396 a1 p0 p1 T406.heap n0 Ex406 F412 g0_406 F413 g1_406 (fun z => hc152 z.symm)) hZ w_51 w_38 (by decide) (by decide)) qa417 qc417 (g := (mkF m 166 #[iv p0, iv p1, iv p2, rv a1, rv a26, iv (1 : Int32), iv (0 : Int32), iv (0 : Int32), iv p1, rv a381, rv a396, rv a396, iv (0 : Int32), .unset] [(.ref a396), (.ref a381)])) rfl (by rw [hml]; rfl) (Steps.refl _) (argsL := [(.ref a396)]) (rest := []) (lenOf own_pd5 rfl) rfl (by show 2 * 0 + _ ≤ _; exact own_b rfl) (hb hby at_166) (fun _ _ => ⟨rfl, rfl, (own_b rfl : 20 + 0 ≤ _), (own_b rfl : 43030 + 0 ≤ _)⟩)
          dsimp only [Pt.U, Pt.locs, Pt.cells, Pt.slots] at X417 l417 y417 z417 st417 hQ417
          obtain ⟨rfl, Nq417, eq417⟩ := hQ417
          obtain ⟨L417, X417, N417⟩ := own_absC (K := 20) (K' := 43030) X417 l417 y417 z417 N406 Nq417
          have e417 : T417.heap = T406.heap := eq417
          refine own_tr (B := (T417.setTop (mkF m 169 #[iv p0, iv p1, iv p2, rv a1, rv a26, iv (1 : Int32), iv (0 : Int32), iv (0 : Int32), iv p1, rv a381, rv a396, rv a396, iv (0 : Int32), .unset] [(.int (0 : Int32))]))) st417 ?_
          refine own_go (B := (T417.setTop (mkF m 171 #[iv p0, iv p1, iv p2, rv a1, rv a26, iv (1 : Int32), iv (0 : Int32), iv (0 : Int32), iv p1, rv a381, rv a396, rv a396, iv (0 : Int32), iv (0 : Int32)] []))) (fun t k => XS.istore X417.here hx rfl (hb hby at_169) rfl (l' := #[iv p0, iv p1, iv p2, rv a1, rv a26, iv (1 : Int32), iv (0 : Int32), iv (0 : Int32), iv p1, rv a381, rv a396, rv a396, iv (0 : Int32), iv (0 : Int32)]) rfl k) ?_
          refine own_go (B := (T417.setTop (mkF m 173 #[iv p0, iv p1, iv p2, rv a1, rv a26, iv (1 : Int32), iv (0 : Int32), iv (0 : Int32), iv p1, rv a381, rv a396, rv a396, iv (0 : Int32), iv (0 : Int32)] [(.int (0 : Int32))]))) (fun t k => XS.iload X417.here hx rfl (hb hby at_171) rfl k) ?_
          refine own_go (B := (T417.setTop (mkF m 175 #[iv p0, iv p1, iv p2, rv a1, rv a26, iv (1 : Int32), iv (0 : Int32), iv (0 : Int32), iv p1, rv a381, rv a396, rv a396, iv (0 : Int32), iv (0 : Int32)] [(.int (0 : Int32)), (.int (0 : Int32))]))) (fun t k => XS.iload X417.here hx rfl (hb hby at_173) rfl k) ?_
          have hc175 : (0 : Int32) = (0 : Int32) := (by decide)
          refine own_icmpY X417 hx (hb hby at_175) (pc' := 180) (by decide) (by decide) hc175 ?_
          refine own_go (B := (T417.setTop (mkF m 182 #[iv p0, iv p1, iv p2, rv a1, rv a26, iv (1 : Int32), iv (0 : Int32), iv (0 : Int32), iv p1, rv a381, rv a396, rv a396, iv (0 : Int32), iv (0 : Int32)] [(.ref a381)]))) (fun t k => XS.aload X417.here hx rfl (hb hby at_180) rfl rfl k) ?_
          refine own_go (B := (T417.setTop (mkF m 184 #[iv p0, iv p1, iv p2, rv a1, rv a26, iv (1 : Int32), iv (0 : Int32), iv (0 : Int32), iv p1, rv a381, rv a396, rv a396, iv (0 : Int32), iv (0 : Int32)] [(.ref a381), (.ref a381)]))) (fun t k => XS.aload X417.here hx rfl (hb hby at_182) rfl rfl k) ?_
          obtain ⟨cq418, kq418, qa418, qb418, qc418⟩ := isOf hZ e417 F411
          obtain ⟨_, _, ⟨T418, L418, k418, n418⟩, -, X418, ⟨Lc418, hQ418, l418, y418, z418⟩, st418⟩ := X417.virtualBack hx (y := own_y7) (z := own_y7) hown (mvT hZ w_47) (mvT hZ w_48) (notFace_of_selects (args := #[]) (mvT hZ w_50)) (mvT hZ w_50) (mvT hZ w_49) (by decide) (backOf (W := 0) (own_eqT l Z a0 hw [] a381 a381 a1 p0 p0 T406.heap n0 F411 F412 F412 F413 F413 rfl) hZ w_51 w_38 (by decide) (by decide)) qa418 qc418 (g := (mkF m 184 #[iv p0, iv p1, iv p2, rv a1, rv a26, iv (1 : Int32), iv (0 : Int32), iv (0 : Int32), iv p1, rv a381, rv a396, rv a396, iv (0 : Int32), iv (0 : Int32)] [(.ref a381), (.ref a381)])) rfl (by rw [hml]; rfl) (Steps.refl _) (argsL := [(.ref a381)]) (rest := []) (lenOf own_pd5 rfl) rfl (by show 2 * 0 + _ ≤ _; exact own_b rfl) (hb hby at_184) (fun _ _ => ⟨rfl, e417, (own_b rfl : 20 + 0 ≤ _), (own_b rfl : 43030 + 0 ≤ _)⟩)
          dsimp only [Pt.U, Pt.locs, Pt.cells, Pt.slots] at X418 l418 y418 z418 st418 hQ418
          obtain ⟨rfl, Nq418, eq418⟩ := hQ418
          obtain ⟨L418, X418, N418⟩ := own_absC (K := 20) (K' := 43030) X418 l418 y418 z418 N417 Nq418
          have e418 : T418.heap = T406.heap := eq418
          refine own_tr (B := (T418.setTop (mkF m 187 #[iv p0, iv p1, iv p2, rv a1, rv a26, iv (1 : Int32), iv (0 : Int32), iv (0 : Int32), iv p1, rv a381, rv a396, rv a396, iv (0 : Int32), iv (0 : Int32)] [(.int (1 : Int32))]))) st418 ?_
          have hc187 : ¬ (1 : Int32) = (0 : Int32) := (by decide)
          refine own_ifY X418 hx (hb hby at_187) (pc' := 192) (by decide) (by decide) hc187 ?_
          refine own_go (B := (T418.setTop (mkF m 194 #[iv p0, iv p1, iv p2, rv a1, rv a26, iv (1 : Int32), iv (0 : Int32), iv (0 : Int32), iv p1, rv a381, rv a396, rv a396, iv (0 : Int32), iv (0 : Int32)] [(.int (0 : Int32))]))) (fun t k => XS.iload X418.here hx rfl (hb hby at_192) rfl k) ?_
          have hc194 : (0 : Int32) = (0 : Int32) := (by decide)
          refine own_ifN X418 hx (hb hby at_194) (pn := 197) rfl hc194 ?_
          refine own_go (B := (T418.setTop (mkF m 199 #[iv p0, iv p1, iv p2, rv a1, rv a26, iv (1 : Int32), iv (0 : Int32), iv (0 : Int32), iv p1, rv a381, rv a396, rv a396, iv (0 : Int32), iv (0 : Int32)] [(.ref a396)]))) (fun t k => XS.aload X418.here hx rfl (hb hby at_197) rfl rfl k) ?_
          refine own_go (B := (T418.setTop (mkF m 201 #[iv p0, iv p1, iv p2, rv a1, rv a26, iv (1 : Int32), iv (0 : Int32), iv (0 : Int32), iv p1, rv a381, rv a396, rv a396, iv (0 : Int32), iv (0 : Int32)] [(.ref a381), (.ref a396)]))) (fun t k => XS.aload X418.here hx rfl (hb hby at_199) rfl rfl k) ?_
          obtain ⟨cq419, kq419, qa419, qb419, qc419⟩ := isOf hZ e418 Ex406
          obtain ⟨_, _, ⟨T419, L419, k419, n419⟩, -, X419, ⟨Lc419, hQ419, l419, y419, z419⟩, st419⟩ := X418.virtualBack hx (y := own_y7) (z := own_y7) hown (mvT hZ w_47) (mvT hZ w_48) (notFace_of_selects (args := #[]) (mvT hZ w_50)) (mvT hZ w_50) (mvT hZ w_49) (by decide) (backOf (W := 0) (own_eqN l Z a0 hw [] a396 a381 a1 p1 p0 T406.heap n0 F411 g0_406 F412 g1_406 F413 hc152) hZ w_51 w_38 (by decide) (by decide)) qa419 qc419 (g := (mkF m 201 #[iv p0, iv p1, iv p2, rv a1, rv a26, iv (1 : Int32), iv (0 : Int32), iv (0 : Int32), iv p1, rv a381, rv a396, rv a396, iv (0 : Int32), iv (0 : Int32)] [(.ref a381), (.ref a396)])) rfl (by rw [hml]; rfl) (Steps.refl _) (argsL := [(.ref a381)]) (rest := []) (lenOf own_pd5 rfl) rfl (by show 2 * 0 + _ ≤ _; exact own_b rfl) (hb hby at_201) (fun _ _ => ⟨rfl, e418, (own_b rfl : 20 + 0 ≤ _), (own_b rfl : 43030 + 0 ≤ _)⟩)
          dsimp only [Pt.U, Pt.locs, Pt.cells, Pt.slots] at X419 l419 y419 z419 st419 hQ419
          obtain ⟨rfl, Nq419, eq419⟩ := hQ419
          obtain ⟨L419, X419, N419⟩ := own_absC (K := 20) (K' := 43030) X419 l419 y419 z419 N418 Nq419
          have e419 : T419.heap = T406.heap := eq419
          refine own_tr (B := (T419.setTop (mkF m 204 #[iv p0, iv p1, iv p2, rv a1, rv a26, iv (1 : Int32), iv (0 : Int32), iv (0 : Int32), iv p1, rv a381, rv a396, rv a396, iv (0 : Int32), iv (0 : Int32)] [(.int (0 : Int32))]))) st419 ?_
          refine own_go (B := (T419.setTop (mkF m 206 #[iv p0, iv p1, iv p2, rv a1, rv a26, iv (1 : Int32), iv (0 : Int32), iv (0 : Int32), iv p1, rv a381, rv a396, rv a396, iv (0 : Int32), iv (0 : Int32)] [(.int (0 : Int32)), (.int (0 : Int32))]))) (fun t k => XS.iload X419.here hx rfl (hb hby at_204) rfl k) ?_
          have hc206 : (0 : Int32) = (0 : Int32) := (by decide)
          refine own_icmpY X419 hx (hb hby at_206) (pc' := 211) (by decide) (by decide) hc206 ?_
          refine own_go (B := (T419.setTop (mkF m 212 #[iv p0, iv p1, iv p2, rv a1, rv a26, iv (1 : Int32), iv (0 : Int32), iv (0 : Int32), iv p1, rv a381, rv a396, rv a396, iv (0 : Int32), iv (0 : Int32)] [(.int (1 : Int32))]))) (fun t k => own_iconst (v := (1 : Int32)) X419.here hx rfl (hb hby at_211) (by decide) k) ?_
          exact own_retZ X419 hx hlk Bd.returns (hb hby at_212) (by decide) (own_b rfl) (own_b rfl) (Q := (own_law_Q Z p0 p1 p2 ca h0 n0)) ⟨rfl, N419⟩
        · refine own_go (B := (T406.setTop (mkF m 156 #[iv p0, iv p1, iv p2, rv a1, rv a26, iv (1 : Int32), iv (0 : Int32), iv (0 : Int32), iv p1, rv a381, rv a396, rv a396, .unset, .unset] [(.int (1 : Int32))]))) (fun t k => own_iconst (v := (1 : Int32)) X406.here hx rfl (hb hby at_155) (by decide) k) ?_
          refine own_go (B := (T406.setTop (mkF m 160 #[iv p0, iv p1, iv p2, rv a1, rv a26, iv (1 : Int32), iv (0 : Int32), iv (0 : Int32), iv p1, rv a381, rv a396, rv a396, .unset, .unset] [(.int (1 : Int32))]))) (fun t k => XS.goto X406.here hx rfl (pc0 := 156) (pc' := 160) rfl (hb hby at_156) (by decide) (by decide) k) ?_
          refine own_go (B := (T406.setTop (mkF m 162 #[iv p0, iv p1, iv p2, rv a1, rv a26, iv (1 : Int32), iv (0 : Int32), iv (0 : Int32), iv p1, rv a381, rv a396, rv a396, iv (1 : Int32), .unset] []))) (fun t k => XS.istore X406.here hx rfl (hb hby at_160) rfl (l' := #[iv p0, iv p1, iv p2, rv a1, rv a26, iv (1 : Int32), iv (0 : Int32), iv (0 : Int32), iv p1, rv a381, rv a396, rv a396, iv (1 : Int32), .unset]) rfl k) ?_
          refine own_go (B := (T406.setTop (mkF m 164 #[iv p0, iv p1, iv p2, rv a1, rv a26, iv (1 : Int32), iv (0 : Int32), iv (0 : Int32), iv p1, rv a381, rv a396, rv a396, iv (1 : Int32), .unset] [(.ref a381)]))) (fun t k => XS.aload X406.here hx rfl (hb hby at_162) rfl rfl k) ?_
          refine own_go (B := (T406.setTop (mkF m 166 #[iv p0, iv p1, iv p2, rv a1, rv a26, iv (1 : Int32), iv (0 : Int32), iv (0 : Int32), iv p1, rv a381, rv a396, rv a396, iv (1 : Int32), .unset] [(.ref a396), (.ref a381)]))) (fun t k => XS.aload X406.here hx rfl (hb hby at_164) rfl rfl k) ?_
          obtain ⟨cq420, kq420, qa420, qb420, qc420⟩ := isOf hZ rfl F411
          obtain ⟨_, _, ⟨T420, L420, k420, n420⟩, -, X420, ⟨Lc420, hQ420, l420, y420, z420⟩, st420⟩ := X406.virtualBack hx (y := own_y7) (z := own_y7) hown (mvT hZ w_47) (mvT hZ w_48) (notFace_of_selects (args := #[]) (mvT hZ w_50)) (mvT hZ w_50) (mvT hZ w_49) (by decide) (backOf (W := 0) (own_eqT l Z a0 hw [] a381 a396 a1 p0 p1 T406.heap n0 Ex406 F412 g0_406 F413 g1_406 hc152.symm) hZ w_51 w_38 (by decide) (by decide)) qa420 qc420 (g := (mkF m 166 #[iv p0, iv p1, iv p2, rv a1, rv a26, iv (1 : Int32), iv (0 : Int32), iv (0 : Int32), iv p1, rv a381, rv a396, rv a396, iv (1 : Int32), .unset] [(.ref a396), (.ref a381)])) rfl (by rw [hml]; rfl) (Steps.refl _) (argsL := [(.ref a396)]) (rest := []) (lenOf own_pd5 rfl) rfl (by show 2 * 0 + _ ≤ _; exact own_b rfl) (hb hby at_166) (fun _ _ => ⟨rfl, rfl, (own_b rfl : 20 + 0 ≤ _), (own_b rfl : 43030 + 0 ≤ _)⟩)
          dsimp only [Pt.U, Pt.locs, Pt.cells, Pt.slots] at X420 l420 y420 z420 st420 hQ420
          obtain ⟨rfl, Nq420, eq420⟩ := hQ420
          obtain ⟨L420, X420, N420⟩ := own_absC (K := 20) (K' := 43030) X420 l420 y420 z420 N406 Nq420
          have e420 : T420.heap = T406.heap := eq420
          refine own_tr (B := (T420.setTop (mkF m 169 #[iv p0, iv p1, iv p2, rv a1, rv a26, iv (1 : Int32), iv (0 : Int32), iv (0 : Int32), iv p1, rv a381, rv a396, rv a396, iv (1 : Int32), .unset] [(.int (1 : Int32))]))) st420 ?_
          refine own_go (B := (T420.setTop (mkF m 171 #[iv p0, iv p1, iv p2, rv a1, rv a26, iv (1 : Int32), iv (0 : Int32), iv (0 : Int32), iv p1, rv a381, rv a396, rv a396, iv (1 : Int32), iv (1 : Int32)] []))) (fun t k => XS.istore X420.here hx rfl (hb hby at_169) rfl (l' := #[iv p0, iv p1, iv p2, rv a1, rv a26, iv (1 : Int32), iv (0 : Int32), iv (0 : Int32), iv p1, rv a381, rv a396, rv a396, iv (1 : Int32), iv (1 : Int32)]) rfl k) ?_
          refine own_go (B := (T420.setTop (mkF m 173 #[iv p0, iv p1, iv p2, rv a1, rv a26, iv (1 : Int32), iv (0 : Int32), iv (0 : Int32), iv p1, rv a381, rv a396, rv a396, iv (1 : Int32), iv (1 : Int32)] [(.int (1 : Int32))]))) (fun t k => XS.iload X420.here hx rfl (hb hby at_171) rfl k) ?_
          refine own_go (B := (T420.setTop (mkF m 175 #[iv p0, iv p1, iv p2, rv a1, rv a26, iv (1 : Int32), iv (0 : Int32), iv (0 : Int32), iv p1, rv a381, rv a396, rv a396, iv (1 : Int32), iv (1 : Int32)] [(.int (1 : Int32)), (.int (1 : Int32))]))) (fun t k => XS.iload X420.here hx rfl (hb hby at_173) rfl k) ?_
          have hc175 : (1 : Int32) = (1 : Int32) := (by decide)
          refine own_icmpY X420 hx (hb hby at_175) (pc' := 180) (by decide) (by decide) hc175 ?_
          refine own_go (B := (T420.setTop (mkF m 182 #[iv p0, iv p1, iv p2, rv a1, rv a26, iv (1 : Int32), iv (0 : Int32), iv (0 : Int32), iv p1, rv a381, rv a396, rv a396, iv (1 : Int32), iv (1 : Int32)] [(.ref a381)]))) (fun t k => XS.aload X420.here hx rfl (hb hby at_180) rfl rfl k) ?_
          refine own_go (B := (T420.setTop (mkF m 184 #[iv p0, iv p1, iv p2, rv a1, rv a26, iv (1 : Int32), iv (0 : Int32), iv (0 : Int32), iv p1, rv a381, rv a396, rv a396, iv (1 : Int32), iv (1 : Int32)] [(.ref a381), (.ref a381)]))) (fun t k => XS.aload X420.here hx rfl (hb hby at_182) rfl rfl k) ?_
          obtain ⟨cq421, kq421, qa421, qb421, qc421⟩ := isOf hZ e420 F411
          obtain ⟨_, _, ⟨T421, L421, k421, n421⟩, -, X421, ⟨Lc421, hQ421, l421, y421, z421⟩, st421⟩ := X420.virtualBack hx (y := own_y7) (z := own_y7) hown (mvT hZ w_47) (mvT hZ w_48) (notFace_of_selects (args := #[]) (mvT hZ w_50)) (mvT hZ w_50) (mvT hZ w_49) (by decide) (backOf (W := 0) (own_eqT l Z a0 hw [] a381 a381 a1 p0 p0 T406.heap n0 F411 F412 F412 F413 F413 rfl) hZ w_51 w_38 (by decide) (by decide)) qa421 qc421 (g := (mkF m 184 #[iv p0, iv p1, iv p2, rv a1, rv a26, iv (1 : Int32), iv (0 : Int32), iv (0 : Int32), iv p1, rv a381, rv a396, rv a396, iv (1 : Int32), iv (1 : Int32)] [(.ref a381), (.ref a381)])) rfl (by rw [hml]; rfl) (Steps.refl _) (argsL := [(.ref a381)]) (rest := []) (lenOf own_pd5 rfl) rfl (by show 2 * 0 + _ ≤ _; exact own_b rfl) (hb hby at_184) (fun _ _ => ⟨rfl, e420, (own_b rfl : 20 + 0 ≤ _), (own_b rfl : 43030 + 0 ≤ _)⟩)
          dsimp only [Pt.U, Pt.locs, Pt.cells, Pt.slots] at X421 l421 y421 z421 st421 hQ421
          obtain ⟨rfl, Nq421, eq421⟩ := hQ421
          obtain ⟨L421, X421, N421⟩ := own_absC (K := 20) (K' := 43030) X421 l421 y421 z421 N420 Nq421
          have e421 : T421.heap = T406.heap := eq421
          refine own_tr (B := (T421.setTop (mkF m 187 #[iv p0, iv p1, iv p2, rv a1, rv a26, iv (1 : Int32), iv (0 : Int32), iv (0 : Int32), iv p1, rv a381, rv a396, rv a396, iv (1 : Int32), iv (1 : Int32)] [(.int (1 : Int32))]))) st421 ?_
          have hc187 : ¬ (1 : Int32) = (0 : Int32) := (by decide)
          refine own_ifY X421 hx (hb hby at_187) (pc' := 192) (by decide) (by decide) hc187 ?_
          refine own_go (B := (T421.setTop (mkF m 194 #[iv p0, iv p1, iv p2, rv a1, rv a26, iv (1 : Int32), iv (0 : Int32), iv (0 : Int32), iv p1, rv a381, rv a396, rv a396, iv (1 : Int32), iv (1 : Int32)] [(.int (0 : Int32))]))) (fun t k => XS.iload X421.here hx rfl (hb hby at_192) rfl k) ?_
          have hc194 : (0 : Int32) = (0 : Int32) := (by decide)
          refine own_ifN X421 hx (hb hby at_194) (pn := 197) rfl hc194 ?_
          refine own_go (B := (T421.setTop (mkF m 199 #[iv p0, iv p1, iv p2, rv a1, rv a26, iv (1 : Int32), iv (0 : Int32), iv (0 : Int32), iv p1, rv a381, rv a396, rv a396, iv (1 : Int32), iv (1 : Int32)] [(.ref a396)]))) (fun t k => XS.aload X421.here hx rfl (hb hby at_197) rfl rfl k) ?_
          refine own_go (B := (T421.setTop (mkF m 201 #[iv p0, iv p1, iv p2, rv a1, rv a26, iv (1 : Int32), iv (0 : Int32), iv (0 : Int32), iv p1, rv a381, rv a396, rv a396, iv (1 : Int32), iv (1 : Int32)] [(.ref a381), (.ref a396)]))) (fun t k => XS.aload X421.here hx rfl (hb hby at_199) rfl rfl k) ?_
          obtain ⟨cq422, kq422, qa422, qb422, qc422⟩ := isOf hZ e421 Ex406
          obtain ⟨_, _, ⟨T422, L422, k422, n422⟩, -, X422, ⟨Lc422, hQ422, l422, y422, z422⟩, st422⟩ := X421.virtualBack hx (y := own_y7) (z := own_y7) hown (mvT hZ w_47) (mvT hZ w_48) (notFace_of_selects (args := #[]) (mvT hZ w_50)) (mvT hZ w_50) (mvT hZ w_49) (by decide) (backOf (W := 0) (own_eqT l Z a0 hw [] a396 a381 a1 p1 p0 T406.heap n0 F411 g0_406 F412 g1_406 F413 hc152) hZ w_51 w_38 (by decide) (by decide)) qa422 qc422 (g := (mkF m 201 #[iv p0, iv p1, iv p2, rv a1, rv a26, iv (1 : Int32), iv (0 : Int32), iv (0 : Int32), iv p1, rv a381, rv a396, rv a396, iv (1 : Int32), iv (1 : Int32)] [(.ref a381), (.ref a396)])) rfl (by rw [hml]; rfl) (Steps.refl _) (argsL := [(.ref a381)]) (rest := []) (lenOf own_pd5 rfl) rfl (by show 2 * 0 + _ ≤ _; exact own_b rfl) (hb hby at_201) (fun _ _ => ⟨rfl, e421, (own_b rfl : 20 + 0 ≤ _), (own_b rfl : 43030 + 0 ≤ _)⟩)
          dsimp only [Pt.U, Pt.locs, Pt.cells, Pt.slots] at X422 l422 y422 z422 st422 hQ422
          obtain ⟨rfl, Nq422, eq422⟩ := hQ422
          obtain ⟨L422, X422, N422⟩ := own_absC (K := 20) (K' := 43030) X422 l422 y422 z422 N421 Nq422
          have e422 : T422.heap = T406.heap := eq422
          refine own_tr (B := (T422.setTop (mkF m 204 #[iv p0, iv p1, iv p2, rv a1, rv a26, iv (1 : Int32), iv (0 : Int32), iv (0 : Int32), iv p1, rv a381, rv a396, rv a396, iv (1 : Int32), iv (1 : Int32)] [(.int (1 : Int32))]))) st422 ?_
          refine own_go (B := (T422.setTop (mkF m 206 #[iv p0, iv p1, iv p2, rv a1, rv a26, iv (1 : Int32), iv (0 : Int32), iv (0 : Int32), iv p1, rv a381, rv a396, rv a396, iv (1 : Int32), iv (1 : Int32)] [(.int (1 : Int32)), (.int (1 : Int32))]))) (fun t k => XS.iload X422.here hx rfl (hb hby at_204) rfl k) ?_
          have hc206 : (1 : Int32) = (1 : Int32) := (by decide)
          refine own_icmpY X422 hx (hb hby at_206) (pc' := 211) (by decide) (by decide) hc206 ?_
          refine own_go (B := (T422.setTop (mkF m 212 #[iv p0, iv p1, iv p2, rv a1, rv a26, iv (1 : Int32), iv (0 : Int32), iv (0 : Int32), iv p1, rv a381, rv a396, rv a396, iv (1 : Int32), iv (1 : Int32)] [(.int (1 : Int32))]))) (fun t k => own_iconst (v := (1 : Int32)) X422.here hx rfl (hb hby at_211) (by decide) k) ?_
          exact own_retZ X422 hx hlk Bd.returns (hb hby at_212) (by decide) (own_b rfl) (own_b rfl) (Q := (own_law_Q Z p0 p1 p2 ca h0 n0)) ⟨rfl, N422⟩
      · refine own_go (B := (T39.setTop (mkF m 54 #[iv p0, iv p1, iv p2, rv a1, rv a26, iv (1 : Int32), iv (0 : Int32), iv (1 : Int32), .unset, .unset, .unset, .unset, .unset, .unset] [(.int (0 : Int32))]))) (fun t k => XS.iload X39.here hx rfl (hb hby at_52) rfl k) ?_
        have hc54 : (0 : Int32) = (0 : Int32) := (by decide)
        refine own_ifY X39 hx (hb hby at_54) (pc' := 61) (by decide) (by decide) hc54 ?_
        refine own_go (B := (T39.setTop (mkF m 62 #[iv p0, iv p1, iv p2, rv a1, rv a26, iv (1 : Int32), iv (0 : Int32), iv (1 : Int32), .unset, .unset, .unset, .unset, .unset, .unset] [(.int p1)]))) (fun t k => XS.iloadN X39.here hx rfl (hb hby at_61) rfl k) ?_
        refine own_go (B := (T39.setTop (mkF m 64 #[iv p0, iv p1, iv p2, rv a1, rv a26, iv (1 : Int32), iv (0 : Int32), iv (1 : Int32), iv p1, .unset, .unset, .unset, .unset, .unset] []))) (fun t k => XS.istore X39.here hx rfl (hb hby at_62) rfl (l' := #[iv p0, iv p1, iv p2, rv a1, rv a26, iv (1 : Int32), iv (0 : Int32), iv (1 : Int32), iv p1, .unset, .unset, .unset, .unset, .unset]) rfl k) ?_
        obtain ⟨T423, h423, X423, e423, E423, A423, D423, U423, st423⟩ := newO X39 hx hZ hown w_36 w_37 w_38 rfl (g := (mkF m 64 #[iv p0, iv p1, iv p2, rv a1, rv a26, iv (1 : Int32), iv (0 : Int32), iv (1 : Int32), iv p1, .unset, .unset, .unset, .unset, .unset] [])) rfl (hb hby at_64) (own_b rfl) (own_b rfl)
        obtain ⟨a423, ga423⟩ : ∃ z, z = T39.heap.size := ⟨_, rfl⟩
        rw [← ga423] at A423 D423 U423 st423
        refine own_go (B := (T423.setTop (mkF m 67 #[iv p0, iv p1, iv p2, rv a1, rv a26, iv (1 : Int32), iv (0 : Int32), iv (1 : Int32), iv p1, .unset, .unset, .unset, .unset, .unset] [(.ref a423)]))) st423 ?_
        have Z424 : n0 ≤ h423.size := Nat.le_trans F40 E423.1
        have K425 := Keep.ext F41 E423
        have F426 := Exa.ext E423 F42
        have F427 := Exa.ext E423 Ex39
        have gn423 : n0 ≤ a423 := Nat.le_trans F40 (Nat.le_of_eq ga423.symm)
        have ne423_a1 : a423 ≠ a1 := fun q => absurd (F42.lt) (by rw [← q, ga423]; exact Nat.lt_irrefl _)
        have ne423_a26 : a423 ≠ a26 := fun q => absurd (Ex39.lt) (by rw [← q, ga423]; exact Nat.lt_irrefl _)
        have F428 : Fld Z h423 a423 "com/example/parts_to_policy/partstopolicy/policy/PacketSet" "bdd" "Lcom/example/parts_to_policy/partstopolicy/policy/Bdd;" .null := D423 (Or.inr w_44) (ty := (.object "com/example/parts_to_policy/partstopolicy/policy/Bdd")) (by decide)
        have F429 : Fld Z h423 a423 "com/example/parts_to_policy/partstopolicy/policy/PacketSet" "node" "I" (.int (0 : Int32)) := D423 (Or.inr w_46) (ty := .int) (by decide)
        refine own_go (B := (T423.setTop (mkF m 68 #[iv p0, iv p1, iv p2, rv a1, rv a26, iv (1 : Int32), iv (0 : Int32), iv (1 : Int32), iv p1, .unset, .unset, .unset, .unset, .unset] [(.ref a423), (.ref a423)]))) (fun t k => XS.dup X423.here hx rfl (hb hby at_67) rfl rfl k) ?_
        refine own_go (B := (T423.setTop (mkF m 69 #[iv p0, iv p1, iv p2, rv a1, rv a26, iv (1 : Int32), iv (0 : Int32), iv (1 : Int32), iv p1, .unset, .unset, .unset, .unset, .unset] [(.ref a1), (.ref a423), (.ref a423)]))) (fun t k => XS.aloadN X423.here hx rfl (hb hby at_68) rfl rfl k) ?_
        refine own_go (B := (T423.setTop (mkF m 70 #[iv p0, iv p1, iv p2, rv a1, rv a26, iv (1 : Int32), iv (0 : Int32), iv (1 : Int32), iv p1, .unset, .unset, .unset, .unset, .unset] [(.int p0), (.ref a1), (.ref a423), (.ref a423)]))) (fun t k => XS.iloadN X423.here hx rfl (hb hby at_69) rfl k) ?_
        obtain ⟨_, _, ⟨T430, L430, k430, n430⟩, -, X430, ⟨Lc430, hQ430, l430, y430, z430⟩, st430⟩ := X423.specialBack hx (y := own_y6) rfl hown (mvT hZ w_39) (mvT hZ w_40) (mvT hZ w_41) (by decide) (backOf (W := 1) (own_pct l Z a0 hw [] a423 a1 p0 h423 n0 Z424 A423 gn423 F428 F429) hZ w_41 w_38 (by decide) (by decide)) (g := (mkF m 70 #[iv p0, iv p1, iv p2, rv a1, rv a26, iv (1 : Int32), iv (0 : Int32), iv (1 : Int32), iv p1, .unset, .unset, .unset, .unset, .unset] [(.int p0), (.ref a1), (.ref a423), (.ref a423)])) rfl (by rw [hml]; rfl) (Steps.refl _) (a := a423) (argsL := [(.ref a1), (.int p0)]) (rest := [(.ref a423)]) (lenOf own_pd4 rfl) rfl (by show 2 * 0 + _ ≤ _; exact own_b rfl) (hb hby at_70) (fun _ _ => ⟨rfl, e423, (own_b rfl : 19 + 0 ≤ _), (own_b rfl : 43028 + 0 ≤ _)⟩)
        dsimp only [Pt.U, Pt.locs, Pt.cells, Pt.slots] at X430 l430 y430 z430 st430 hQ430
        obtain ⟨rfl, Nq430, K430, Ex430, g0_430, g1_430⟩ := hQ430
        obtain ⟨L430, X430, N430⟩ := own_absC (K := 19) (K' := 43028) X430 l430 y430 z430 N39 Nq430
        have F431 : n0 ≤ T430.heap.size := Nat.le_trans Z424 K430.1
        have F432 := Keep.trans K425 K430 (allS (Or.inr (Nat.le_trans F41.1 (Nat.le_of_eq ga423.symm))) all0)
        have F433 := Exa.keep F426 K430
        have F434 := Exa.keep F427 K430
        have F435 := Exa.keep A423 K430
        refine own_tr (B := (T430.setTop (mkF m 73 #[iv p0, iv p1, iv p2, rv a1, rv a26, iv (1 : Int32), iv (0 : Int32), iv (1 : Int32), iv p1, .unset, .unset, .unset, .unset, .unset] [(.ref a423)]))) st430 ?_
        refine own_go (B := (T430.setTop (mkF m 75 #[iv p0, iv p1, iv p2, rv a1, rv a26, iv (1 : Int32), iv (0 : Int32), iv (1 : Int32), iv p1, rv a423, .unset, .unset, .unset, .unset] []))) (fun t k => XS.astore X430.here hx rfl (hb hby at_73) rfl rfl (l' := #[iv p0, iv p1, iv p2, rv a1, rv a26, iv (1 : Int32), iv (0 : Int32), iv (1 : Int32), iv p1, rv a423, .unset, .unset, .unset, .unset]) rfl k) ?_
        obtain ⟨T438, h438, X438, e438, E438, A438, D438, U438, st438⟩ := newO X430 hx hZ hown w_36 w_37 w_38 rfl (g := (mkF m 75 #[iv p0, iv p1, iv p2, rv a1, rv a26, iv (1 : Int32), iv (0 : Int32), iv (1 : Int32), iv p1, rv a423, .unset, .unset, .unset, .unset] [])) rfl (hb hby at_75) (own_b rfl) (own_b rfl)
        obtain ⟨a438, ga438⟩ : ∃ z, z = T430.heap.size := ⟨_, rfl⟩
        rw [← ga438] at A438 D438 U438 st438
        refine own_go (B := (T438.setTop (mkF m 78 #[iv p0, iv p1, iv p2, rv a1, rv a26, iv (1 : Int32), iv (0 : Int32), iv (1 : Int32), iv p1, rv a423, .unset, .unset, .unset, .unset] [(.ref a438)]))) st438 ?_
        have Z439 : n0 ≤ h438.size := Nat.le_trans F431 E438.1
        have K440 := Keep.ext F432 E438
        have F441 := Exa.ext E438 F433
        have F442 := Exa.ext E438 F434
        have F443 := Exa.ext E438 Ex430
        have F444 := Fld.ext E438 g0_430
        have F445 := Fld.ext E438 g1_430
        have gn438 : n0 ≤ a438 := Nat.le_trans F431 (Nat.le_of_eq ga438.symm)
        have ne438_a1 : a438 ≠ a1 := fun q => absurd (F433.lt) (by rw [← q, ga438]; exact Nat.lt_irrefl _)
        have ne438_a26 : a438 ≠ a26 := fun q => absurd (F434.lt) (by rw [← q, ga438]; exact Nat.lt_irrefl _)
        have ne438_a423 : a438 ≠ a423 := fun q => absurd (Ex430.lt) (by rw [← q, ga438]; exact Nat.lt_irrefl _)
        have F446 : Fld Z h438 a438 "com/example/parts_to_policy/partstopolicy/policy/PacketSet" "bdd" "Lcom/example/parts_to_policy/partstopolicy/policy/Bdd;" .null := D438 (Or.inr w_44) (ty := (.object "com/example/parts_to_policy/partstopolicy/policy/Bdd")) (by decide)
        have F447 : Fld Z h438 a438 "com/example/parts_to_policy/partstopolicy/policy/PacketSet" "node" "I" (.int (0 : Int32)) := D438 (Or.inr w_46) (ty := .int) (by decide)
        refine own_go (B := (T438.setTop (mkF m 79 #[iv p0, iv p1, iv p2, rv a1, rv a26, iv (1 : Int32), iv (0 : Int32), iv (1 : Int32), iv p1, rv a423, .unset, .unset, .unset, .unset] [(.ref a438), (.ref a438)]))) (fun t k => XS.dup X438.here hx rfl (hb hby at_78) rfl rfl k) ?_
        refine own_go (B := (T438.setTop (mkF m 81 #[iv p0, iv p1, iv p2, rv a1, rv a26, iv (1 : Int32), iv (0 : Int32), iv (1 : Int32), iv p1, rv a423, .unset, .unset, .unset, .unset] [(.int (1 : Int32)), (.ref a438), (.ref a438)]))) (fun t k => XS.iload X438.here hx rfl (hb hby at_79) rfl k) ?_
        have hc81 : ¬ (1 : Int32) = (0 : Int32) := (by decide)
        refine own_ifN X438 hx (hb hby at_81) (pn := 84) rfl hc81 ?_
        refine own_go (B := (T438.setTop (mkF m 85 #[iv p0, iv p1, iv p2, rv a1, rv a26, iv (1 : Int32), iv (0 : Int32), iv (1 : Int32), iv p1, rv a423, .unset, .unset, .unset, .unset] [(.ref a1), (.ref a438), (.ref a438)]))) (fun t k => XS.aloadN X438.here hx rfl (hb hby at_84) rfl rfl k) ?_
        refine own_go (B := (T438.setTop (mkF m 90 #[iv p0, iv p1, iv p2, rv a1, rv a26, iv (1 : Int32), iv (0 : Int32), iv (1 : Int32), iv p1, rv a423, .unset, .unset, .unset, .unset] [(.ref a1), (.ref a438), (.ref a438)]))) (fun t k => XS.goto X438.here hx rfl (pc0 := 85) (pc' := 90) rfl (hb hby at_85) (by decide) (by decide) k) ?_
        refine own_go (B := (T438.setTop (mkF m 92 #[iv p0, iv p1, iv p2, rv a1, rv a26, iv (1 : Int32), iv (0 : Int32), iv (1 : Int32), iv p1, rv a423, .unset, .unset, .unset, .unset] [(.int p1), (.ref a1), (.ref a438), (.ref a438)]))) (fun t k => XS.iload X438.here hx rfl (hb hby at_90) rfl k) ?_
        obtain ⟨_, _, ⟨T448, L448, k448, n448⟩, -, X448, ⟨Lc448, hQ448, l448, y448, z448⟩, st448⟩ := X438.specialBack hx (y := own_y6) rfl hown (mvT hZ w_39) (mvT hZ w_40) (mvT hZ w_41) (by decide) (backOf (W := 1) (own_pct l Z a0 hw [] a438 a1 p1 h438 n0 Z439 A438 gn438 F446 F447) hZ w_41 w_38 (by decide) (by decide)) (g := (mkF m 92 #[iv p0, iv p1, iv p2, rv a1, rv a26, iv (1 : Int32), iv (0 : Int32), iv (1 : Int32), iv p1, rv a423, .unset, .unset, .unset, .unset] [(.int p1), (.ref a1), (.ref a438), (.ref a438)])) rfl (by rw [hml]; rfl) (Steps.refl _) (a := a438) (argsL := [(.ref a1), (.int p1)]) (rest := [(.ref a438)]) (lenOf own_pd4 rfl) rfl (by show 2 * 0 + _ ≤ _; exact own_b rfl) (hb hby at_92) (fun _ _ => ⟨rfl, e438, (own_b rfl : 20 + 0 ≤ _), (own_b rfl : 43030 + 0 ≤ _)⟩)
        dsimp only [Pt.U, Pt.locs, Pt.cells, Pt.slots] at X448 l448 y448 z448 st448 hQ448
        obtain ⟨rfl, Nq448, K448, Ex448, g0_448, g1_448⟩ := hQ448
        obtain ⟨L448, X448, N448⟩ := own_absC (K := 20) (K' := 43030) X448 l448 y448 z448 N430 Nq448
        have F449 : n0 ≤ T448.heap.size := Nat.le_trans Z439 K448.1
        have F450 := Keep.trans K440 K448 (allS (Or.inr (Nat.le_trans F432.1 (Nat.le_of_eq ga438.symm))) all0)
        have F451 := Exa.keep F441 K448
        have F452 := Exa.keep F442 K448
        have F453 := Exa.keep F443 K448
        have F454 := Fld.keep F444 K448 (ninS (Ne.symm ne438_a423) nin0)
        have F455 := Fld.keep F445 K448 (ninS (Ne.symm ne438_a423) nin0)
        have F456 := Exa.keep A438 K448
        refine own_tr (B := (T448.setTop (mkF m 95 #[iv p0, iv p1, iv p2, rv a1, rv a26, iv (1 : Int32), iv (0 : Int32), iv (1 : Int32), iv p1, rv a423, .unset, .unset, .unset, .unset] [(.ref a438)]))) st448 ?_
        refine own_go (B := (T448.setTop (mkF m 97 #[iv p0, iv p1, iv p2, rv a1, rv a26, iv (1 : Int32), iv (0 : Int32), iv (1 : Int32), iv p1, rv a423, rv a438, .unset, .unset, .unset] []))) (fun t k => XS.astore X448.here hx rfl (hb hby at_95) rfl rfl (l' := #[iv p0, iv p1, iv p2, rv a1, rv a26, iv (1 : Int32), iv (0 : Int32), iv (1 : Int32), iv p1, rv a423, rv a438, .unset, .unset, .unset]) rfl k) ?_
        refine own_go (B := (T448.setTop (mkF m 99 #[iv p0, iv p1, iv p2, rv a1, rv a26, iv (1 : Int32), iv (0 : Int32), iv (1 : Int32), iv p1, rv a423, rv a438, .unset, .unset, .unset] [(.int (1 : Int32))]))) (fun t k => XS.iload X448.here hx rfl (hb hby at_97) rfl k) ?_
        have hc99 : ¬ (1 : Int32) = (0 : Int32) := (by decide)
        refine own_ifY X448 hx (hb hby at_99) (pc' := 109) (by decide) (by decide) hc99 ?_
        refine own_go (B := (T448.setTop (mkF m 111 #[iv p0, iv p1, iv p2, rv a1, rv a26, iv (1 : Int32), iv (0 : Int32), iv (1 : Int32), iv p1, rv a423, rv a438, .unset, .unset, .unset] [(.int (1 : Int32))]))) (fun t k => XS.iload X448.here hx rfl (hb hby at_109) rfl k) ?_
        refine own_go (B := (T448.setTop (mkF m 112 #[iv p0, iv p1, iv p2, rv a1, rv a26, iv (1 : Int32), iv (0 : Int32), iv (1 : Int32), iv p1, rv a423, rv a438, .unset, .unset, .unset] [(.int (1 : Int32)), (.int (1 : Int32))]))) (fun t k => own_iconst (v := (1 : Int32)) X448.here hx rfl (hb hby at_111) (by decide) k) ?_
        have hc112 : (1 : Int32) = (1 : Int32) := (by decide)
        refine own_icmpN X448 hx (hb hby at_112) (pn := 115) rfl hc112 ?_
        refine own_go (B := (T448.setTop (mkF m 116 #[iv p0, iv p1, iv p2, rv a1, rv a26, iv (1 : Int32), iv (0 : Int32), iv (1 : Int32), iv p1, rv a423, rv a438, .unset, .unset, .unset] [.null]))) (fun t k => XS.aconstNull X448.here hx rfl (hb hby at_115) k) ?_
        refine own_go (B := (T448.setTop (mkF m 118 #[iv p0, iv p1, iv p2, rv a1, rv a26, iv (1 : Int32), iv (0 : Int32), iv (1 : Int32), iv p1, rv a423, rv a438, .val .null, .unset, .unset] []))) (fun t k => XS.astore X448.here hx rfl (hb hby at_116) rfl rfl (l' := #[iv p0, iv p1, iv p2, rv a1, rv a26, iv (1 : Int32), iv (0 : Int32), iv (1 : Int32), iv p1, rv a423, rv a438, .val .null, .unset, .unset]) rfl k) ?_
        refine own_go (B := (T448.setTop (mkF m 139 #[iv p0, iv p1, iv p2, rv a1, rv a26, iv (1 : Int32), iv (0 : Int32), iv (1 : Int32), iv p1, rv a423, rv a438, .val .null, .unset, .unset] []))) (fun t k => XS.goto X448.here hx rfl (pc0 := 118) (pc' := 139) rfl (hb hby at_118) (by decide) (by decide) k) ?_
        refine own_go (B := (T448.setTop (mkF m 141 #[iv p0, iv p1, iv p2, rv a1, rv a26, iv (1 : Int32), iv (0 : Int32), iv (1 : Int32), iv p1, rv a423, rv a438, .val .null, .unset, .unset] [(.int (1 : Int32))]))) (fun t k => XS.iload X448.here hx rfl (hb hby at_139) rfl k) ?_
        have hc141 : ¬ (1 : Int32) = (0 : Int32) := (by decide)
        refine own_ifY X448 hx (hb hby at_141) (pc' := 159) (by decide) (by decide) hc141 ?_
        refine own_go (B := (T448.setTop (mkF m 160 #[iv p0, iv p1, iv p2, rv a1, rv a26, iv (1 : Int32), iv (0 : Int32), iv (1 : Int32), iv p1, rv a423, rv a438, .val .null, .unset, .unset] [(.int (0 : Int32))]))) (fun t k => own_iconst (v := (0 : Int32)) X448.here hx rfl (hb hby at_159) (by decide) k) ?_
        refine own_go (B := (T448.setTop (mkF m 162 #[iv p0, iv p1, iv p2, rv a1, rv a26, iv (1 : Int32), iv (0 : Int32), iv (1 : Int32), iv p1, rv a423, rv a438, .val .null, iv (0 : Int32), .unset] []))) (fun t k => XS.istore X448.here hx rfl (hb hby at_160) rfl (l' := #[iv p0, iv p1, iv p2, rv a1, rv a26, iv (1 : Int32), iv (0 : Int32), iv (1 : Int32), iv p1, rv a423, rv a438, .val .null, iv (0 : Int32), .unset]) rfl k) ?_
        refine own_go (B := (T448.setTop (mkF m 164 #[iv p0, iv p1, iv p2, rv a1, rv a26, iv (1 : Int32), iv (0 : Int32), iv (1 : Int32), iv p1, rv a423, rv a438, .val .null, iv (0 : Int32), .unset] [(.ref a423)]))) (fun t k => XS.aload X448.here hx rfl (hb hby at_162) rfl rfl k) ?_
        refine own_go (B := (T448.setTop (mkF m 166 #[iv p0, iv p1, iv p2, rv a1, rv a26, iv (1 : Int32), iv (0 : Int32), iv (1 : Int32), iv p1, rv a423, rv a438, .val .null, iv (0 : Int32), .unset] [.null, (.ref a423)]))) (fun t k => XS.aload X448.here hx rfl (hb hby at_164) rfl rfl k) ?_
        obtain ⟨cq459, kq459, qa459, qb459, qc459⟩ := isOf hZ rfl F453
        obtain ⟨_, _, ⟨T459, L459, k459, n459⟩, -, X459, ⟨Lc459, hQ459, l459, y459, z459⟩, st459⟩ := X448.virtualBack hx (y := own_y7) (z := own_y7) hown (mvT hZ w_47) (mvT hZ w_48) (notFace_of_selects (args := #[]) (mvT hZ w_50)) (mvT hZ w_50) (mvT hZ w_49) (by decide) (backOf (W := 0) (own_eqnull l Z a0 hw [] a423 T448.heap n0) hZ w_51 w_38 (by decide) (by decide)) qa459 qc459 (g := (mkF m 166 #[iv p0, iv p1, iv p2, rv a1, rv a26, iv (1 : Int32), iv (0 : Int32), iv (1 : Int32), iv p1, rv a423, rv a438, .val .null, iv (0 : Int32), .unset] [.null, (.ref a423)])) rfl (by rw [hml]; rfl) (Steps.refl _) (argsL := [.null]) (rest := []) (lenOf own_pd5 rfl) rfl (by show 2 * 0 + _ ≤ _; exact own_b rfl) (hb hby at_166) (fun _ _ => ⟨rfl, rfl, (own_b rfl : 20 + 0 ≤ _), (own_b rfl : 43030 + 0 ≤ _)⟩)
        dsimp only [Pt.U, Pt.locs, Pt.cells, Pt.slots] at X459 l459 y459 z459 st459 hQ459
        obtain ⟨rfl, Nq459, eq459⟩ := hQ459
        obtain ⟨L459, X459, N459⟩ := own_absC (K := 20) (K' := 43030) X459 l459 y459 z459 N448 Nq459
        have e459 : T459.heap = T448.heap := eq459
        refine own_tr (B := (T459.setTop (mkF m 169 #[iv p0, iv p1, iv p2, rv a1, rv a26, iv (1 : Int32), iv (0 : Int32), iv (1 : Int32), iv p1, rv a423, rv a438, .val .null, iv (0 : Int32), .unset] [(.int (0 : Int32))]))) st459 ?_
        refine own_go (B := (T459.setTop (mkF m 171 #[iv p0, iv p1, iv p2, rv a1, rv a26, iv (1 : Int32), iv (0 : Int32), iv (1 : Int32), iv p1, rv a423, rv a438, .val .null, iv (0 : Int32), iv (0 : Int32)] []))) (fun t k => XS.istore X459.here hx rfl (hb hby at_169) rfl (l' := #[iv p0, iv p1, iv p2, rv a1, rv a26, iv (1 : Int32), iv (0 : Int32), iv (1 : Int32), iv p1, rv a423, rv a438, .val .null, iv (0 : Int32), iv (0 : Int32)]) rfl k) ?_
        refine own_go (B := (T459.setTop (mkF m 173 #[iv p0, iv p1, iv p2, rv a1, rv a26, iv (1 : Int32), iv (0 : Int32), iv (1 : Int32), iv p1, rv a423, rv a438, .val .null, iv (0 : Int32), iv (0 : Int32)] [(.int (0 : Int32))]))) (fun t k => XS.iload X459.here hx rfl (hb hby at_171) rfl k) ?_
        refine own_go (B := (T459.setTop (mkF m 175 #[iv p0, iv p1, iv p2, rv a1, rv a26, iv (1 : Int32), iv (0 : Int32), iv (1 : Int32), iv p1, rv a423, rv a438, .val .null, iv (0 : Int32), iv (0 : Int32)] [(.int (0 : Int32)), (.int (0 : Int32))]))) (fun t k => XS.iload X459.here hx rfl (hb hby at_173) rfl k) ?_
        have hc175 : (0 : Int32) = (0 : Int32) := (by decide)
        refine own_icmpY X459 hx (hb hby at_175) (pc' := 180) (by decide) (by decide) hc175 ?_
        refine own_go (B := (T459.setTop (mkF m 182 #[iv p0, iv p1, iv p2, rv a1, rv a26, iv (1 : Int32), iv (0 : Int32), iv (1 : Int32), iv p1, rv a423, rv a438, .val .null, iv (0 : Int32), iv (0 : Int32)] [(.ref a423)]))) (fun t k => XS.aload X459.here hx rfl (hb hby at_180) rfl rfl k) ?_
        refine own_go (B := (T459.setTop (mkF m 184 #[iv p0, iv p1, iv p2, rv a1, rv a26, iv (1 : Int32), iv (0 : Int32), iv (1 : Int32), iv p1, rv a423, rv a438, .val .null, iv (0 : Int32), iv (0 : Int32)] [(.ref a423), (.ref a423)]))) (fun t k => XS.aload X459.here hx rfl (hb hby at_182) rfl rfl k) ?_
        obtain ⟨cq460, kq460, qa460, qb460, qc460⟩ := isOf hZ e459 F453
        obtain ⟨_, _, ⟨T460, L460, k460, n460⟩, -, X460, ⟨Lc460, hQ460, l460, y460, z460⟩, st460⟩ := X459.virtualBack hx (y := own_y7) (z := own_y7) hown (mvT hZ w_47) (mvT hZ w_48) (notFace_of_selects (args := #[]) (mvT hZ w_50)) (mvT hZ w_50) (mvT hZ w_49) (by decide) (backOf (W := 0) (own_eqT l Z a0 hw [] a423 a423 a1 p0 p0 T448.heap n0 F453 F454 F454 F455 F455 rfl) hZ w_51 w_38 (by decide) (by decide)) qa460 qc460 (g := (mkF m 184 #[iv p0, iv p1, iv p2, rv a1, rv a26, iv (1 : Int32), iv (0 : Int32), iv (1 : Int32), iv p1, rv a423, rv a438, .val .null, iv (0 : Int32), iv (0 : Int32)] [(.ref a423), (.ref a423)])) rfl (by rw [hml]; rfl) (Steps.refl _) (argsL := [(.ref a423)]) (rest := []) (lenOf own_pd5 rfl) rfl (by show 2 * 0 + _ ≤ _; exact own_b rfl) (hb hby at_184) (fun _ _ => ⟨rfl, e459, (own_b rfl : 20 + 0 ≤ _), (own_b rfl : 43030 + 0 ≤ _)⟩)
        dsimp only [Pt.U, Pt.locs, Pt.cells, Pt.slots] at X460 l460 y460 z460 st460 hQ460
        obtain ⟨rfl, Nq460, eq460⟩ := hQ460
        obtain ⟨L460, X460, N460⟩ := own_absC (K := 20) (K' := 43030) X460 l460 y460 z460 N459 Nq460
        have e460 : T460.heap = T448.heap := eq460
        refine own_tr (B := (T460.setTop (mkF m 187 #[iv p0, iv p1, iv p2, rv a1, rv a26, iv (1 : Int32), iv (0 : Int32), iv (1 : Int32), iv p1, rv a423, rv a438, .val .null, iv (0 : Int32), iv (0 : Int32)] [(.int (1 : Int32))]))) st460 ?_
        have hc187 : ¬ (1 : Int32) = (0 : Int32) := (by decide)
        refine own_ifY X460 hx (hb hby at_187) (pc' := 192) (by decide) (by decide) hc187 ?_
        refine own_go (B := (T460.setTop (mkF m 194 #[iv p0, iv p1, iv p2, rv a1, rv a26, iv (1 : Int32), iv (0 : Int32), iv (1 : Int32), iv p1, rv a423, rv a438, .val .null, iv (0 : Int32), iv (0 : Int32)] [(.int (1 : Int32))]))) (fun t k => XS.iload X460.here hx rfl (hb hby at_192) rfl k) ?_
        have hc194 : ¬ (1 : Int32) = (0 : Int32) := (by decide)
        refine own_ifY X460 hx (hb hby at_194) (pc' := 211) (by decide) (by decide) hc194 ?_
        refine own_go (B := (T460.setTop (mkF m 212 #[iv p0, iv p1, iv p2, rv a1, rv a26, iv (1 : Int32), iv (0 : Int32), iv (1 : Int32), iv p1, rv a423, rv a438, .val .null, iv (0 : Int32), iv (0 : Int32)] [(.int (1 : Int32))]))) (fun t k => own_iconst (v := (1 : Int32)) X460.here hx rfl (hb hby at_211) (by decide) k) ?_
        exact own_retZ X460 hx hlk Bd.returns (hb hby at_212) (by decide) (own_b rfl) (own_b rfl) (Q := (own_law_Q Z p0 p1 p2 ca h0 n0)) ⟨rfl, N460⟩
      · refine own_go (B := (T39.setTop (mkF m 54 #[iv p0, iv p1, iv p2, rv a1, rv a26, iv (1 : Int32), iv (0 : Int32), iv (2 : Int32), .unset, .unset, .unset, .unset, .unset, .unset] [(.int (0 : Int32))]))) (fun t k => XS.iload X39.here hx rfl (hb hby at_52) rfl k) ?_
        have hc54 : (0 : Int32) = (0 : Int32) := (by decide)
        refine own_ifY X39 hx (hb hby at_54) (pc' := 61) (by decide) (by decide) hc54 ?_
        refine own_go (B := (T39.setTop (mkF m 62 #[iv p0, iv p1, iv p2, rv a1, rv a26, iv (1 : Int32), iv (0 : Int32), iv (2 : Int32), .unset, .unset, .unset, .unset, .unset, .unset] [(.int p1)]))) (fun t k => XS.iloadN X39.here hx rfl (hb hby at_61) rfl k) ?_
        refine own_go (B := (T39.setTop (mkF m 64 #[iv p0, iv p1, iv p2, rv a1, rv a26, iv (1 : Int32), iv (0 : Int32), iv (2 : Int32), iv p1, .unset, .unset, .unset, .unset, .unset] []))) (fun t k => XS.istore X39.here hx rfl (hb hby at_62) rfl (l' := #[iv p0, iv p1, iv p2, rv a1, rv a26, iv (1 : Int32), iv (0 : Int32), iv (2 : Int32), iv p1, .unset, .unset, .unset, .unset, .unset]) rfl k) ?_
        obtain ⟨T461, h461, X461, e461, E461, A461, D461, U461, st461⟩ := newO X39 hx hZ hown w_36 w_37 w_38 rfl (g := (mkF m 64 #[iv p0, iv p1, iv p2, rv a1, rv a26, iv (1 : Int32), iv (0 : Int32), iv (2 : Int32), iv p1, .unset, .unset, .unset, .unset, .unset] [])) rfl (hb hby at_64) (own_b rfl) (own_b rfl)
        obtain ⟨a461, ga461⟩ : ∃ z, z = T39.heap.size := ⟨_, rfl⟩
        rw [← ga461] at A461 D461 U461 st461
        refine own_go (B := (T461.setTop (mkF m 67 #[iv p0, iv p1, iv p2, rv a1, rv a26, iv (1 : Int32), iv (0 : Int32), iv (2 : Int32), iv p1, .unset, .unset, .unset, .unset, .unset] [(.ref a461)]))) st461 ?_
        have Z462 : n0 ≤ h461.size := Nat.le_trans F40 E461.1
        have K463 := Keep.ext F41 E461
        have F464 := Exa.ext E461 F42
        have F465 := Exa.ext E461 Ex39
        have gn461 : n0 ≤ a461 := Nat.le_trans F40 (Nat.le_of_eq ga461.symm)
        have ne461_a1 : a461 ≠ a1 := fun q => absurd (F42.lt) (by rw [← q, ga461]; exact Nat.lt_irrefl _)
        have ne461_a26 : a461 ≠ a26 := fun q => absurd (Ex39.lt) (by rw [← q, ga461]; exact Nat.lt_irrefl _)
        have F466 : Fld Z h461 a461 "com/example/parts_to_policy/partstopolicy/policy/PacketSet" "bdd" "Lcom/example/parts_to_policy/partstopolicy/policy/Bdd;" .null := D461 (Or.inr w_44) (ty := (.object "com/example/parts_to_policy/partstopolicy/policy/Bdd")) (by decide)
        have F467 : Fld Z h461 a461 "com/example/parts_to_policy/partstopolicy/policy/PacketSet" "node" "I" (.int (0 : Int32)) := D461 (Or.inr w_46) (ty := .int) (by decide)
        refine own_go (B := (T461.setTop (mkF m 68 #[iv p0, iv p1, iv p2, rv a1, rv a26, iv (1 : Int32), iv (0 : Int32), iv (2 : Int32), iv p1, .unset, .unset, .unset, .unset, .unset] [(.ref a461), (.ref a461)]))) (fun t k => XS.dup X461.here hx rfl (hb hby at_67) rfl rfl k) ?_
        refine own_go (B := (T461.setTop (mkF m 69 #[iv p0, iv p1, iv p2, rv a1, rv a26, iv (1 : Int32), iv (0 : Int32), iv (2 : Int32), iv p1, .unset, .unset, .unset, .unset, .unset] [(.ref a1), (.ref a461), (.ref a461)]))) (fun t k => XS.aloadN X461.here hx rfl (hb hby at_68) rfl rfl k) ?_
        refine own_go (B := (T461.setTop (mkF m 70 #[iv p0, iv p1, iv p2, rv a1, rv a26, iv (1 : Int32), iv (0 : Int32), iv (2 : Int32), iv p1, .unset, .unset, .unset, .unset, .unset] [(.int p0), (.ref a1), (.ref a461), (.ref a461)]))) (fun t k => XS.iloadN X461.here hx rfl (hb hby at_69) rfl k) ?_
        obtain ⟨_, _, ⟨T468, L468, k468, n468⟩, -, X468, ⟨Lc468, hQ468, l468, y468, z468⟩, st468⟩ := X461.specialBack hx (y := own_y6) rfl hown (mvT hZ w_39) (mvT hZ w_40) (mvT hZ w_41) (by decide) (backOf (W := 1) (own_pct l Z a0 hw [] a461 a1 p0 h461 n0 Z462 A461 gn461 F466 F467) hZ w_41 w_38 (by decide) (by decide)) (g := (mkF m 70 #[iv p0, iv p1, iv p2, rv a1, rv a26, iv (1 : Int32), iv (0 : Int32), iv (2 : Int32), iv p1, .unset, .unset, .unset, .unset, .unset] [(.int p0), (.ref a1), (.ref a461), (.ref a461)])) rfl (by rw [hml]; rfl) (Steps.refl _) (a := a461) (argsL := [(.ref a1), (.int p0)]) (rest := [(.ref a461)]) (lenOf own_pd4 rfl) rfl (by show 2 * 0 + _ ≤ _; exact own_b rfl) (hb hby at_70) (fun _ _ => ⟨rfl, e461, (own_b rfl : 19 + 0 ≤ _), (own_b rfl : 43028 + 0 ≤ _)⟩)
        dsimp only [Pt.U, Pt.locs, Pt.cells, Pt.slots] at X468 l468 y468 z468 st468 hQ468
        obtain ⟨rfl, Nq468, K468, Ex468, g0_468, g1_468⟩ := hQ468
        obtain ⟨L468, X468, N468⟩ := own_absC (K := 19) (K' := 43028) X468 l468 y468 z468 N39 Nq468
        have F469 : n0 ≤ T468.heap.size := Nat.le_trans Z462 K468.1
        have F470 := Keep.trans K463 K468 (allS (Or.inr (Nat.le_trans F41.1 (Nat.le_of_eq ga461.symm))) all0)
        have F471 := Exa.keep F464 K468
        have F472 := Exa.keep F465 K468
        have F473 := Exa.keep A461 K468
        refine own_tr (B := (T468.setTop (mkF m 73 #[iv p0, iv p1, iv p2, rv a1, rv a26, iv (1 : Int32), iv (0 : Int32), iv (2 : Int32), iv p1, .unset, .unset, .unset, .unset, .unset] [(.ref a461)]))) st468 ?_
        refine own_go (B := (T468.setTop (mkF m 75 #[iv p0, iv p1, iv p2, rv a1, rv a26, iv (1 : Int32), iv (0 : Int32), iv (2 : Int32), iv p1, rv a461, .unset, .unset, .unset, .unset] []))) (fun t k => XS.astore X468.here hx rfl (hb hby at_73) rfl rfl (l' := #[iv p0, iv p1, iv p2, rv a1, rv a26, iv (1 : Int32), iv (0 : Int32), iv (2 : Int32), iv p1, rv a461, .unset, .unset, .unset, .unset]) rfl k) ?_
        obtain ⟨T476, h476, X476, e476, E476, A476, D476, U476, st476⟩ := newO X468 hx hZ hown w_36 w_37 w_38 rfl (g := (mkF m 75 #[iv p0, iv p1, iv p2, rv a1, rv a26, iv (1 : Int32), iv (0 : Int32), iv (2 : Int32), iv p1, rv a461, .unset, .unset, .unset, .unset] [])) rfl (hb hby at_75) (own_b rfl) (own_b rfl)
        obtain ⟨a476, ga476⟩ : ∃ z, z = T468.heap.size := ⟨_, rfl⟩
        rw [← ga476] at A476 D476 U476 st476
        refine own_go (B := (T476.setTop (mkF m 78 #[iv p0, iv p1, iv p2, rv a1, rv a26, iv (1 : Int32), iv (0 : Int32), iv (2 : Int32), iv p1, rv a461, .unset, .unset, .unset, .unset] [(.ref a476)]))) st476 ?_
        have Z477 : n0 ≤ h476.size := Nat.le_trans F469 E476.1
        have K478 := Keep.ext F470 E476
        have F479 := Exa.ext E476 F471
        have F480 := Exa.ext E476 F472
        have F481 := Exa.ext E476 Ex468
        have F482 := Fld.ext E476 g0_468
        have F483 := Fld.ext E476 g1_468
        have gn476 : n0 ≤ a476 := Nat.le_trans F469 (Nat.le_of_eq ga476.symm)
        have ne476_a1 : a476 ≠ a1 := fun q => absurd (F471.lt) (by rw [← q, ga476]; exact Nat.lt_irrefl _)
        have ne476_a26 : a476 ≠ a26 := fun q => absurd (F472.lt) (by rw [← q, ga476]; exact Nat.lt_irrefl _)
        have ne476_a461 : a476 ≠ a461 := fun q => absurd (Ex468.lt) (by rw [← q, ga476]; exact Nat.lt_irrefl _)
        have F484 : Fld Z h476 a476 "com/example/parts_to_policy/partstopolicy/policy/PacketSet" "bdd" "Lcom/example/parts_to_policy/partstopolicy/policy/Bdd;" .null := D476 (Or.inr w_44) (ty := (.object "com/example/parts_to_policy/partstopolicy/policy/Bdd")) (by decide)
        have F485 : Fld Z h476 a476 "com/example/parts_to_policy/partstopolicy/policy/PacketSet" "node" "I" (.int (0 : Int32)) := D476 (Or.inr w_46) (ty := .int) (by decide)
        refine own_go (B := (T476.setTop (mkF m 79 #[iv p0, iv p1, iv p2, rv a1, rv a26, iv (1 : Int32), iv (0 : Int32), iv (2 : Int32), iv p1, rv a461, .unset, .unset, .unset, .unset] [(.ref a476), (.ref a476)]))) (fun t k => XS.dup X476.here hx rfl (hb hby at_78) rfl rfl k) ?_
        refine own_go (B := (T476.setTop (mkF m 81 #[iv p0, iv p1, iv p2, rv a1, rv a26, iv (1 : Int32), iv (0 : Int32), iv (2 : Int32), iv p1, rv a461, .unset, .unset, .unset, .unset] [(.int (1 : Int32)), (.ref a476), (.ref a476)]))) (fun t k => XS.iload X476.here hx rfl (hb hby at_79) rfl k) ?_
        have hc81 : ¬ (1 : Int32) = (0 : Int32) := (by decide)
        refine own_ifN X476 hx (hb hby at_81) (pn := 84) rfl hc81 ?_
        refine own_go (B := (T476.setTop (mkF m 85 #[iv p0, iv p1, iv p2, rv a1, rv a26, iv (1 : Int32), iv (0 : Int32), iv (2 : Int32), iv p1, rv a461, .unset, .unset, .unset, .unset] [(.ref a1), (.ref a476), (.ref a476)]))) (fun t k => XS.aloadN X476.here hx rfl (hb hby at_84) rfl rfl k) ?_
        refine own_go (B := (T476.setTop (mkF m 90 #[iv p0, iv p1, iv p2, rv a1, rv a26, iv (1 : Int32), iv (0 : Int32), iv (2 : Int32), iv p1, rv a461, .unset, .unset, .unset, .unset] [(.ref a1), (.ref a476), (.ref a476)]))) (fun t k => XS.goto X476.here hx rfl (pc0 := 85) (pc' := 90) rfl (hb hby at_85) (by decide) (by decide) k) ?_
        refine own_go (B := (T476.setTop (mkF m 92 #[iv p0, iv p1, iv p2, rv a1, rv a26, iv (1 : Int32), iv (0 : Int32), iv (2 : Int32), iv p1, rv a461, .unset, .unset, .unset, .unset] [(.int p1), (.ref a1), (.ref a476), (.ref a476)]))) (fun t k => XS.iload X476.here hx rfl (hb hby at_90) rfl k) ?_
        obtain ⟨_, _, ⟨T486, L486, k486, n486⟩, -, X486, ⟨Lc486, hQ486, l486, y486, z486⟩, st486⟩ := X476.specialBack hx (y := own_y6) rfl hown (mvT hZ w_39) (mvT hZ w_40) (mvT hZ w_41) (by decide) (backOf (W := 1) (own_pct l Z a0 hw [] a476 a1 p1 h476 n0 Z477 A476 gn476 F484 F485) hZ w_41 w_38 (by decide) (by decide)) (g := (mkF m 92 #[iv p0, iv p1, iv p2, rv a1, rv a26, iv (1 : Int32), iv (0 : Int32), iv (2 : Int32), iv p1, rv a461, .unset, .unset, .unset, .unset] [(.int p1), (.ref a1), (.ref a476), (.ref a476)])) rfl (by rw [hml]; rfl) (Steps.refl _) (a := a476) (argsL := [(.ref a1), (.int p1)]) (rest := [(.ref a476)]) (lenOf own_pd4 rfl) rfl (by show 2 * 0 + _ ≤ _; exact own_b rfl) (hb hby at_92) (fun _ _ => ⟨rfl, e476, (own_b rfl : 20 + 0 ≤ _), (own_b rfl : 43030 + 0 ≤ _)⟩)
        dsimp only [Pt.U, Pt.locs, Pt.cells, Pt.slots] at X486 l486 y486 z486 st486 hQ486
        obtain ⟨rfl, Nq486, K486, Ex486, g0_486, g1_486⟩ := hQ486
        obtain ⟨L486, X486, N486⟩ := own_absC (K := 20) (K' := 43030) X486 l486 y486 z486 N468 Nq486
        have F487 : n0 ≤ T486.heap.size := Nat.le_trans Z477 K486.1
        have F488 := Keep.trans K478 K486 (allS (Or.inr (Nat.le_trans F470.1 (Nat.le_of_eq ga476.symm))) all0)
        have F489 := Exa.keep F479 K486
        have F490 := Exa.keep F480 K486
        have F491 := Exa.keep F481 K486
        have F492 := Fld.keep F482 K486 (ninS (Ne.symm ne476_a461) nin0)
        have F493 := Fld.keep F483 K486 (ninS (Ne.symm ne476_a461) nin0)
        have F494 := Exa.keep A476 K486
        refine own_tr (B := (T486.setTop (mkF m 95 #[iv p0, iv p1, iv p2, rv a1, rv a26, iv (1 : Int32), iv (0 : Int32), iv (2 : Int32), iv p1, rv a461, .unset, .unset, .unset, .unset] [(.ref a476)]))) st486 ?_
        refine own_go (B := (T486.setTop (mkF m 97 #[iv p0, iv p1, iv p2, rv a1, rv a26, iv (1 : Int32), iv (0 : Int32), iv (2 : Int32), iv p1, rv a461, rv a476, .unset, .unset, .unset] []))) (fun t k => XS.astore X486.here hx rfl (hb hby at_95) rfl rfl (l' := #[iv p0, iv p1, iv p2, rv a1, rv a26, iv (1 : Int32), iv (0 : Int32), iv (2 : Int32), iv p1, rv a461, rv a476, .unset, .unset, .unset]) rfl k) ?_
        refine own_go (B := (T486.setTop (mkF m 99 #[iv p0, iv p1, iv p2, rv a1, rv a26, iv (1 : Int32), iv (0 : Int32), iv (2 : Int32), iv p1, rv a461, rv a476, .unset, .unset, .unset] [(.int (2 : Int32))]))) (fun t k => XS.iload X486.here hx rfl (hb hby at_97) rfl k) ?_
        have hc99 : ¬ (2 : Int32) = (0 : Int32) := (by decide)
        refine own_ifY X486 hx (hb hby at_99) (pc' := 109) (by decide) (by decide) hc99 ?_
        refine own_go (B := (T486.setTop (mkF m 111 #[iv p0, iv p1, iv p2, rv a1, rv a26, iv (1 : Int32), iv (0 : Int32), iv (2 : Int32), iv p1, rv a461, rv a476, .unset, .unset, .unset] [(.int (2 : Int32))]))) (fun t k => XS.iload X486.here hx rfl (hb hby at_109) rfl k) ?_
        refine own_go (B := (T486.setTop (mkF m 112 #[iv p0, iv p1, iv p2, rv a1, rv a26, iv (1 : Int32), iv (0 : Int32), iv (2 : Int32), iv p1, rv a461, rv a476, .unset, .unset, .unset] [(.int (1 : Int32)), (.int (2 : Int32))]))) (fun t k => own_iconst (v := (1 : Int32)) X486.here hx rfl (hb hby at_111) (by decide) k) ?_
        have hc112 : ¬ (2 : Int32) = (1 : Int32) := (by decide)
        refine own_icmpY X486 hx (hb hby at_112) (pc' := 121) (by decide) (by decide) hc112 ?_
        refine own_go (B := (T486.setTop (mkF m 123 #[iv p0, iv p1, iv p2, rv a1, rv a26, iv (1 : Int32), iv (0 : Int32), iv (2 : Int32), iv p1, rv a461, rv a476, .unset, .unset, .unset] [(.int (2 : Int32))]))) (fun t k => XS.iload X486.here hx rfl (hb hby at_121) rfl k) ?_
        refine own_go (B := (T486.setTop (mkF m 124 #[iv p0, iv p1, iv p2, rv a1, rv a26, iv (1 : Int32), iv (0 : Int32), iv (2 : Int32), iv p1, rv a461, rv a476, .unset, .unset, .unset] [(.int (2 : Int32)), (.int (2 : Int32))]))) (fun t k => own_iconst (v := (2 : Int32)) X486.here hx rfl (hb hby at_123) (by decide) k) ?_
        have hc124 : (2 : Int32) = (2 : Int32) := (by decide)
        refine own_icmpN X486 hx (hb hby at_124) (pn := 127) rfl hc124 ?_
        refine own_go (B := (T486.setTop (mkF m 128 #[iv p0, iv p1, iv p2, rv a1, rv a26, iv (1 : Int32), iv (0 : Int32), iv (2 : Int32), iv p1, rv a461, rv a476, .unset, .unset, .unset] [(.int p0)]))) (fun t k => XS.iloadN X486.here hx rfl (hb hby at_127) rfl k) ?_
        obtain ⟨_, _, ⟨T497, L497, k497, n497⟩, -, X497, ⟨Lc497, hQ497, l497, y497, z497⟩, st497⟩ := Jvm.LawKit.callS X486 hx (y := own_y8) hown (mvT hZ w_56) (mvT hZ w_57) (mvT hZ w_58) (mvT hZ w_59) (by decide) (backOf (W := 0) (own_vo l Z a0 hw [] p0 ca T486.heap n0 F487 (own_sta_keep hS1 F488 (fun _ q => nomatch q)) (own_sta_keep hS2 F488 (fun _ q => nomatch q)) (own_Cache_keep hC F488)) hZ w_59 w_58 (by decide) (by decide)) (g := (mkF m 128 #[iv p0, iv p1, iv p2, rv a1, rv a26, iv (1 : Int32), iv (0 : Int32), iv (2 : Int32), iv p1, rv a461, rv a476, .unset, .unset, .unset] [(.int p0)])) rfl (by rw [hml]; rfl) (argsL := [(.int p0)]) (rest := []) (lenOf own_pd6 rfl) rfl (by show 2 * 0 + _ ≤ _; exact own_b rfl) (hb hby at_128) (fun _ _ => ⟨rfl, rfl, (own_b rfl : 20 + 1 ≤ _), (own_b rfl : 43030 + 1 ≤ _)⟩)
        dsimp only [Pt.U, Pt.locs, Pt.cells, Pt.slots] at X497 l497 y497 z497 st497 hQ497
        obtain ⟨a497, rfl, Nq497, K497, Ex497, gv497⟩ := hQ497
        obtain ⟨L497, X497, N497⟩ := own_absC (K := 21) (K' := 43031) X497 l497 y497 z497 N486 Nq497
        have F498 : n0 ≤ T497.heap.size := Nat.le_trans F487 K497.1
        have F499 := Keep.trans F488 K497 all0
        have F500 := Exa.keep F489 K497
        have F501 := Exa.keep F490 K497
        have F502 := Exa.keep F491 K497
        have F503 := Fld.keep F492 K497 nin0
        have F504 := Fld.keep F493 K497 nin0
        have F505 := Exa.keep Ex486 K497
        have F506 := Fld.keep g0_486 K497 nin0
        have F507 := Fld.keep g1_486 K497 nin0
        refine own_go (B := (T497.setTop (mkF m 131 #[iv p0, iv p1, iv p2, rv a1, rv a26, iv (1 : Int32), iv (0 : Int32), iv (2 : Int32), iv p1, rv a461, rv a476, .unset, .unset, .unset] [(.ref a497)]))) st497 ?_
        refine own_go (B := (T497.setTop (mkF m 133 #[iv p0, iv p1, iv p2, rv a1, rv a26, iv (1 : Int32), iv (0 : Int32), iv (2 : Int32), iv p1, rv a461, rv a476, rv a497, .unset, .unset] []))) (fun t k => XS.astore X497.here hx rfl (hb hby at_131) rfl rfl (l' := #[iv p0, iv p1, iv p2, rv a1, rv a26, iv (1 : Int32), iv (0 : Int32), iv (2 : Int32), iv p1, rv a461, rv a476, rv a497, .unset, .unset]) rfl k) ?_
        refine own_go (B := (T497.setTop (mkF m 139 #[iv p0, iv p1, iv p2, rv a1, rv a26, iv (1 : Int32), iv (0 : Int32), iv (2 : Int32), iv p1, rv a461, rv a476, rv a497, .unset, .unset] []))) (fun t k => XS.goto X497.here hx rfl (pc0 := 133) (pc' := 139) rfl (hb hby at_133) (by decide) (by decide) k) ?_
        refine own_go (B := (T497.setTop (mkF m 141 #[iv p0, iv p1, iv p2, rv a1, rv a26, iv (1 : Int32), iv (0 : Int32), iv (2 : Int32), iv p1, rv a461, rv a476, rv a497, .unset, .unset] [(.int (2 : Int32))]))) (fun t k => XS.iload X497.here hx rfl (hb hby at_139) rfl k) ?_
        have hc141 : ¬ (2 : Int32) = (0 : Int32) := (by decide)
        refine own_ifY X497 hx (hb hby at_141) (pc' := 159) (by decide) (by decide) hc141 ?_
        refine own_go (B := (T497.setTop (mkF m 160 #[iv p0, iv p1, iv p2, rv a1, rv a26, iv (1 : Int32), iv (0 : Int32), iv (2 : Int32), iv p1, rv a461, rv a476, rv a497, .unset, .unset] [(.int (0 : Int32))]))) (fun t k => own_iconst (v := (0 : Int32)) X497.here hx rfl (hb hby at_159) (by decide) k) ?_
        refine own_go (B := (T497.setTop (mkF m 162 #[iv p0, iv p1, iv p2, rv a1, rv a26, iv (1 : Int32), iv (0 : Int32), iv (2 : Int32), iv p1, rv a461, rv a476, rv a497, iv (0 : Int32), .unset] []))) (fun t k => XS.istore X497.here hx rfl (hb hby at_160) rfl (l' := #[iv p0, iv p1, iv p2, rv a1, rv a26, iv (1 : Int32), iv (0 : Int32), iv (2 : Int32), iv p1, rv a461, rv a476, rv a497, iv (0 : Int32), .unset]) rfl k) ?_
        refine own_go (B := (T497.setTop (mkF m 164 #[iv p0, iv p1, iv p2, rv a1, rv a26, iv (1 : Int32), iv (0 : Int32), iv (2 : Int32), iv p1, rv a461, rv a476, rv a497, iv (0 : Int32), .unset] [(.ref a461)]))) (fun t k => XS.aload X497.here hx rfl (hb hby at_162) rfl rfl k) ?_
        refine own_go (B := (T497.setTop (mkF m 166 #[iv p0, iv p1, iv p2, rv a1, rv a26, iv (1 : Int32), iv (0 : Int32), iv (2 : Int32), iv p1, rv a461, rv a476, rv a497, iv (0 : Int32), .unset] [(.ref a497), (.ref a461)]))) (fun t k => XS.aload X497.here hx rfl (hb hby at_164) rfl rfl k) ?_
        obtain ⟨cq508, kq508, qa508, qb508, qc508⟩ := isOf hZ rfl F502
        obtain ⟨_, _, ⟨T508, L508, k508, n508⟩, -, X508, ⟨Lc508, hQ508, l508, y508, z508⟩, st508⟩ := X497.virtualBack hx (y := own_y7) (z := own_y7) hown (mvT hZ w_47) (mvT hZ w_48) (notFace_of_selects (args := #[]) (mvT hZ w_50)) (mvT hZ w_50) (mvT hZ w_49) (by decide) (backOf (W := 0) (own_eqint_ l Z a0 hw [] a461 a497 T497.heap n0 Ex497) hZ w_51 w_38 (by decide) (by decide)) qa508 qc508 (g := (mkF m 166 #[iv p0, iv p1, iv p2, rv a1, rv a26, iv (1 : Int32), iv (0 : Int32), iv (2 : Int32), iv p1, rv a461, rv a476, rv a497, iv (0 : Int32), .unset] [(.ref a497), (.ref a461)])) rfl (by rw [hml]; rfl) (Steps.refl _) (argsL := [(.ref a497)]) (rest := []) (lenOf own_pd5 rfl) rfl (by show 2 * 0 + _ ≤ _; exact own_b rfl) (hb hby at_166) (fun _ _ => ⟨rfl, rfl, (own_b rfl : 21 + 0 ≤ _), (own_b rfl : 43031 + 0 ≤ _)⟩)
        dsimp only [Pt.U, Pt.locs, Pt.cells, Pt.slots] at X508 l508 y508 z508 st508 hQ508
        obtain ⟨rfl, Nq508, eq508⟩ := hQ508
        obtain ⟨L508, X508, N508⟩ := own_absC (K := 21) (K' := 43031) X508 l508 y508 z508 N497 Nq508
        have e508 : T508.heap = T497.heap := eq508
        refine own_tr (B := (T508.setTop (mkF m 169 #[iv p0, iv p1, iv p2, rv a1, rv a26, iv (1 : Int32), iv (0 : Int32), iv (2 : Int32), iv p1, rv a461, rv a476, rv a497, iv (0 : Int32), .unset] [(.int (0 : Int32))]))) st508 ?_
        refine own_go (B := (T508.setTop (mkF m 171 #[iv p0, iv p1, iv p2, rv a1, rv a26, iv (1 : Int32), iv (0 : Int32), iv (2 : Int32), iv p1, rv a461, rv a476, rv a497, iv (0 : Int32), iv (0 : Int32)] []))) (fun t k => XS.istore X508.here hx rfl (hb hby at_169) rfl (l' := #[iv p0, iv p1, iv p2, rv a1, rv a26, iv (1 : Int32), iv (0 : Int32), iv (2 : Int32), iv p1, rv a461, rv a476, rv a497, iv (0 : Int32), iv (0 : Int32)]) rfl k) ?_
        refine own_go (B := (T508.setTop (mkF m 173 #[iv p0, iv p1, iv p2, rv a1, rv a26, iv (1 : Int32), iv (0 : Int32), iv (2 : Int32), iv p1, rv a461, rv a476, rv a497, iv (0 : Int32), iv (0 : Int32)] [(.int (0 : Int32))]))) (fun t k => XS.iload X508.here hx rfl (hb hby at_171) rfl k) ?_
        refine own_go (B := (T508.setTop (mkF m 175 #[iv p0, iv p1, iv p2, rv a1, rv a26, iv (1 : Int32), iv (0 : Int32), iv (2 : Int32), iv p1, rv a461, rv a476, rv a497, iv (0 : Int32), iv (0 : Int32)] [(.int (0 : Int32)), (.int (0 : Int32))]))) (fun t k => XS.iload X508.here hx rfl (hb hby at_173) rfl k) ?_
        have hc175 : (0 : Int32) = (0 : Int32) := (by decide)
        refine own_icmpY X508 hx (hb hby at_175) (pc' := 180) (by decide) (by decide) hc175 ?_
        refine own_go (B := (T508.setTop (mkF m 182 #[iv p0, iv p1, iv p2, rv a1, rv a26, iv (1 : Int32), iv (0 : Int32), iv (2 : Int32), iv p1, rv a461, rv a476, rv a497, iv (0 : Int32), iv (0 : Int32)] [(.ref a461)]))) (fun t k => XS.aload X508.here hx rfl (hb hby at_180) rfl rfl k) ?_
        refine own_go (B := (T508.setTop (mkF m 184 #[iv p0, iv p1, iv p2, rv a1, rv a26, iv (1 : Int32), iv (0 : Int32), iv (2 : Int32), iv p1, rv a461, rv a476, rv a497, iv (0 : Int32), iv (0 : Int32)] [(.ref a461), (.ref a461)]))) (fun t k => XS.aload X508.here hx rfl (hb hby at_182) rfl rfl k) ?_
        obtain ⟨cq509, kq509, qa509, qb509, qc509⟩ := isOf hZ e508 F502
        obtain ⟨_, _, ⟨T509, L509, k509, n509⟩, -, X509, ⟨Lc509, hQ509, l509, y509, z509⟩, st509⟩ := X508.virtualBack hx (y := own_y7) (z := own_y7) hown (mvT hZ w_47) (mvT hZ w_48) (notFace_of_selects (args := #[]) (mvT hZ w_50)) (mvT hZ w_50) (mvT hZ w_49) (by decide) (backOf (W := 0) (own_eqT l Z a0 hw [] a461 a461 a1 p0 p0 T497.heap n0 F502 F503 F503 F504 F504 rfl) hZ w_51 w_38 (by decide) (by decide)) qa509 qc509 (g := (mkF m 184 #[iv p0, iv p1, iv p2, rv a1, rv a26, iv (1 : Int32), iv (0 : Int32), iv (2 : Int32), iv p1, rv a461, rv a476, rv a497, iv (0 : Int32), iv (0 : Int32)] [(.ref a461), (.ref a461)])) rfl (by rw [hml]; rfl) (Steps.refl _) (argsL := [(.ref a461)]) (rest := []) (lenOf own_pd5 rfl) rfl (by show 2 * 0 + _ ≤ _; exact own_b rfl) (hb hby at_184) (fun _ _ => ⟨rfl, e508, (own_b rfl : 21 + 0 ≤ _), (own_b rfl : 43031 + 0 ≤ _)⟩)
        dsimp only [Pt.U, Pt.locs, Pt.cells, Pt.slots] at X509 l509 y509 z509 st509 hQ509
        obtain ⟨rfl, Nq509, eq509⟩ := hQ509
        obtain ⟨L509, X509, N509⟩ := own_absC (K := 21) (K' := 43031) X509 l509 y509 z509 N508 Nq509
        have e509 : T509.heap = T497.heap := eq509
        refine own_tr (B := (T509.setTop (mkF m 187 #[iv p0, iv p1, iv p2, rv a1, rv a26, iv (1 : Int32), iv (0 : Int32), iv (2 : Int32), iv p1, rv a461, rv a476, rv a497, iv (0 : Int32), iv (0 : Int32)] [(.int (1 : Int32))]))) st509 ?_
        have hc187 : ¬ (1 : Int32) = (0 : Int32) := (by decide)
        refine own_ifY X509 hx (hb hby at_187) (pc' := 192) (by decide) (by decide) hc187 ?_
        refine own_go (B := (T509.setTop (mkF m 194 #[iv p0, iv p1, iv p2, rv a1, rv a26, iv (1 : Int32), iv (0 : Int32), iv (2 : Int32), iv p1, rv a461, rv a476, rv a497, iv (0 : Int32), iv (0 : Int32)] [(.int (2 : Int32))]))) (fun t k => XS.iload X509.here hx rfl (hb hby at_192) rfl k) ?_
        have hc194 : ¬ (2 : Int32) = (0 : Int32) := (by decide)
        refine own_ifY X509 hx (hb hby at_194) (pc' := 211) (by decide) (by decide) hc194 ?_
        refine own_go (B := (T509.setTop (mkF m 212 #[iv p0, iv p1, iv p2, rv a1, rv a26, iv (1 : Int32), iv (0 : Int32), iv (2 : Int32), iv p1, rv a461, rv a476, rv a497, iv (0 : Int32), iv (0 : Int32)] [(.int (1 : Int32))]))) (fun t k => own_iconst (v := (1 : Int32)) X509.here hx rfl (hb hby at_211) (by decide) k) ?_
        exact own_retZ X509 hx hlk Bd.returns (hb hby at_212) (by decide) (own_b rfl) (own_b rfl) (Q := (own_law_Q Z p0 p1 p2 ca h0 n0)) ⟨rfl, N509⟩
      · refine own_go (B := (T39.setTop (mkF m 54 #[iv p0, iv p1, iv p2, rv a1, rv a26, iv (1 : Int32), iv (0 : Int32), iv (3 : Int32), .unset, .unset, .unset, .unset, .unset, .unset] [(.int (0 : Int32))]))) (fun t k => XS.iload X39.here hx rfl (hb hby at_52) rfl k) ?_
        have hc54 : (0 : Int32) = (0 : Int32) := (by decide)
        refine own_ifY X39 hx (hb hby at_54) (pc' := 61) (by decide) (by decide) hc54 ?_
        refine own_go (B := (T39.setTop (mkF m 62 #[iv p0, iv p1, iv p2, rv a1, rv a26, iv (1 : Int32), iv (0 : Int32), iv (3 : Int32), .unset, .unset, .unset, .unset, .unset, .unset] [(.int p1)]))) (fun t k => XS.iloadN X39.here hx rfl (hb hby at_61) rfl k) ?_
        refine own_go (B := (T39.setTop (mkF m 64 #[iv p0, iv p1, iv p2, rv a1, rv a26, iv (1 : Int32), iv (0 : Int32), iv (3 : Int32), iv p1, .unset, .unset, .unset, .unset, .unset] []))) (fun t k => XS.istore X39.here hx rfl (hb hby at_62) rfl (l' := #[iv p0, iv p1, iv p2, rv a1, rv a26, iv (1 : Int32), iv (0 : Int32), iv (3 : Int32), iv p1, .unset, .unset, .unset, .unset, .unset]) rfl k) ?_
        obtain ⟨T510, h510, X510, e510, E510, A510, D510, U510, st510⟩ := newO X39 hx hZ hown w_36 w_37 w_38 rfl (g := (mkF m 64 #[iv p0, iv p1, iv p2, rv a1, rv a26, iv (1 : Int32), iv (0 : Int32), iv (3 : Int32), iv p1, .unset, .unset, .unset, .unset, .unset] [])) rfl (hb hby at_64) (own_b rfl) (own_b rfl)
        obtain ⟨a510, ga510⟩ : ∃ z, z = T39.heap.size := ⟨_, rfl⟩
        rw [← ga510] at A510 D510 U510 st510
        refine own_go (B := (T510.setTop (mkF m 67 #[iv p0, iv p1, iv p2, rv a1, rv a26, iv (1 : Int32), iv (0 : Int32), iv (3 : Int32), iv p1, .unset, .unset, .unset, .unset, .unset] [(.ref a510)]))) st510 ?_
        have Z511 : n0 ≤ h510.size := Nat.le_trans F40 E510.1
        have K512 := Keep.ext F41 E510
        have F513 := Exa.ext E510 F42
        have F514 := Exa.ext E510 Ex39
        have gn510 : n0 ≤ a510 := Nat.le_trans F40 (Nat.le_of_eq ga510.symm)
        have ne510_a1 : a510 ≠ a1 := fun q => absurd (F42.lt) (by rw [← q, ga510]; exact Nat.lt_irrefl _)
        have ne510_a26 : a510 ≠ a26 := fun q => absurd (Ex39.lt) (by rw [← q, ga510]; exact Nat.lt_irrefl _)
        have F515 : Fld Z h510 a510 "com/example/parts_to_policy/partstopolicy/policy/PacketSet" "bdd" "Lcom/example/parts_to_policy/partstopolicy/policy/Bdd;" .null := D510 (Or.inr w_44) (ty := (.object "com/example/parts_to_policy/partstopolicy/policy/Bdd")) (by decide)
        have F516 : Fld Z h510 a510 "com/example/parts_to_policy/partstopolicy/policy/PacketSet" "node" "I" (.int (0 : Int32)) := D510 (Or.inr w_46) (ty := .int) (by decide)
        refine own_go (B := (T510.setTop (mkF m 68 #[iv p0, iv p1, iv p2, rv a1, rv a26, iv (1 : Int32), iv (0 : Int32), iv (3 : Int32), iv p1, .unset, .unset, .unset, .unset, .unset] [(.ref a510), (.ref a510)]))) (fun t k => XS.dup X510.here hx rfl (hb hby at_67) rfl rfl k) ?_
        refine own_go (B := (T510.setTop (mkF m 69 #[iv p0, iv p1, iv p2, rv a1, rv a26, iv (1 : Int32), iv (0 : Int32), iv (3 : Int32), iv p1, .unset, .unset, .unset, .unset, .unset] [(.ref a1), (.ref a510), (.ref a510)]))) (fun t k => XS.aloadN X510.here hx rfl (hb hby at_68) rfl rfl k) ?_
        refine own_go (B := (T510.setTop (mkF m 70 #[iv p0, iv p1, iv p2, rv a1, rv a26, iv (1 : Int32), iv (0 : Int32), iv (3 : Int32), iv p1, .unset, .unset, .unset, .unset, .unset] [(.int p0), (.ref a1), (.ref a510), (.ref a510)]))) (fun t k => XS.iloadN X510.here hx rfl (hb hby at_69) rfl k) ?_
        obtain ⟨_, _, ⟨T517, L517, k517, n517⟩, -, X517, ⟨Lc517, hQ517, l517, y517, z517⟩, st517⟩ := X510.specialBack hx (y := own_y6) rfl hown (mvT hZ w_39) (mvT hZ w_40) (mvT hZ w_41) (by decide) (backOf (W := 1) (own_pct l Z a0 hw [] a510 a1 p0 h510 n0 Z511 A510 gn510 F515 F516) hZ w_41 w_38 (by decide) (by decide)) (g := (mkF m 70 #[iv p0, iv p1, iv p2, rv a1, rv a26, iv (1 : Int32), iv (0 : Int32), iv (3 : Int32), iv p1, .unset, .unset, .unset, .unset, .unset] [(.int p0), (.ref a1), (.ref a510), (.ref a510)])) rfl (by rw [hml]; rfl) (Steps.refl _) (a := a510) (argsL := [(.ref a1), (.int p0)]) (rest := [(.ref a510)]) (lenOf own_pd4 rfl) rfl (by show 2 * 0 + _ ≤ _; exact own_b rfl) (hb hby at_70) (fun _ _ => ⟨rfl, e510, (own_b rfl : 19 + 0 ≤ _), (own_b rfl : 43028 + 0 ≤ _)⟩)
        dsimp only [Pt.U, Pt.locs, Pt.cells, Pt.slots] at X517 l517 y517 z517 st517 hQ517
        obtain ⟨rfl, Nq517, K517, Ex517, g0_517, g1_517⟩ := hQ517
        obtain ⟨L517, X517, N517⟩ := own_absC (K := 19) (K' := 43028) X517 l517 y517 z517 N39 Nq517
        have F518 : n0 ≤ T517.heap.size := Nat.le_trans Z511 K517.1
        have F519 := Keep.trans K512 K517 (allS (Or.inr (Nat.le_trans F41.1 (Nat.le_of_eq ga510.symm))) all0)
        have F520 := Exa.keep F513 K517
        have F521 := Exa.keep F514 K517
        have F522 := Exa.keep A510 K517
        refine own_tr (B := (T517.setTop (mkF m 73 #[iv p0, iv p1, iv p2, rv a1, rv a26, iv (1 : Int32), iv (0 : Int32), iv (3 : Int32), iv p1, .unset, .unset, .unset, .unset, .unset] [(.ref a510)]))) st517 ?_
        refine own_go (B := (T517.setTop (mkF m 75 #[iv p0, iv p1, iv p2, rv a1, rv a26, iv (1 : Int32), iv (0 : Int32), iv (3 : Int32), iv p1, rv a510, .unset, .unset, .unset, .unset] []))) (fun t k => XS.astore X517.here hx rfl (hb hby at_73) rfl rfl (l' := #[iv p0, iv p1, iv p2, rv a1, rv a26, iv (1 : Int32), iv (0 : Int32), iv (3 : Int32), iv p1, rv a510, .unset, .unset, .unset, .unset]) rfl k) ?_
        obtain ⟨T525, h525, X525, e525, E525, A525, D525, U525, st525⟩ := newO X517 hx hZ hown w_36 w_37 w_38 rfl (g := (mkF m 75 #[iv p0, iv p1, iv p2, rv a1, rv a26, iv (1 : Int32), iv (0 : Int32), iv (3 : Int32), iv p1, rv a510, .unset, .unset, .unset, .unset] [])) rfl (hb hby at_75) (own_b rfl) (own_b rfl)
        obtain ⟨a525, ga525⟩ : ∃ z, z = T517.heap.size := ⟨_, rfl⟩
        rw [← ga525] at A525 D525 U525 st525
        refine own_go (B := (T525.setTop (mkF m 78 #[iv p0, iv p1, iv p2, rv a1, rv a26, iv (1 : Int32), iv (0 : Int32), iv (3 : Int32), iv p1, rv a510, .unset, .unset, .unset, .unset] [(.ref a525)]))) st525 ?_
        have Z526 : n0 ≤ h525.size := Nat.le_trans F518 E525.1
        have K527 := Keep.ext F519 E525
        have F528 := Exa.ext E525 F520
        have F529 := Exa.ext E525 F521
        have F530 := Exa.ext E525 Ex517
        have F531 := Fld.ext E525 g0_517
        have F532 := Fld.ext E525 g1_517
        have gn525 : n0 ≤ a525 := Nat.le_trans F518 (Nat.le_of_eq ga525.symm)
        have ne525_a1 : a525 ≠ a1 := fun q => absurd (F520.lt) (by rw [← q, ga525]; exact Nat.lt_irrefl _)
        have ne525_a26 : a525 ≠ a26 := fun q => absurd (F521.lt) (by rw [← q, ga525]; exact Nat.lt_irrefl _)
        have ne525_a510 : a525 ≠ a510 := fun q => absurd (Ex517.lt) (by rw [← q, ga525]; exact Nat.lt_irrefl _)
        have F533 : Fld Z h525 a525 "com/example/parts_to_policy/partstopolicy/policy/PacketSet" "bdd" "Lcom/example/parts_to_policy/partstopolicy/policy/Bdd;" .null := D525 (Or.inr w_44) (ty := (.object "com/example/parts_to_policy/partstopolicy/policy/Bdd")) (by decide)
        have F534 : Fld Z h525 a525 "com/example/parts_to_policy/partstopolicy/policy/PacketSet" "node" "I" (.int (0 : Int32)) := D525 (Or.inr w_46) (ty := .int) (by decide)
        refine own_go (B := (T525.setTop (mkF m 79 #[iv p0, iv p1, iv p2, rv a1, rv a26, iv (1 : Int32), iv (0 : Int32), iv (3 : Int32), iv p1, rv a510, .unset, .unset, .unset, .unset] [(.ref a525), (.ref a525)]))) (fun t k => XS.dup X525.here hx rfl (hb hby at_78) rfl rfl k) ?_
        refine own_go (B := (T525.setTop (mkF m 81 #[iv p0, iv p1, iv p2, rv a1, rv a26, iv (1 : Int32), iv (0 : Int32), iv (3 : Int32), iv p1, rv a510, .unset, .unset, .unset, .unset] [(.int (1 : Int32)), (.ref a525), (.ref a525)]))) (fun t k => XS.iload X525.here hx rfl (hb hby at_79) rfl k) ?_
        have hc81 : ¬ (1 : Int32) = (0 : Int32) := (by decide)
        refine own_ifN X525 hx (hb hby at_81) (pn := 84) rfl hc81 ?_
        refine own_go (B := (T525.setTop (mkF m 85 #[iv p0, iv p1, iv p2, rv a1, rv a26, iv (1 : Int32), iv (0 : Int32), iv (3 : Int32), iv p1, rv a510, .unset, .unset, .unset, .unset] [(.ref a1), (.ref a525), (.ref a525)]))) (fun t k => XS.aloadN X525.here hx rfl (hb hby at_84) rfl rfl k) ?_
        refine own_go (B := (T525.setTop (mkF m 90 #[iv p0, iv p1, iv p2, rv a1, rv a26, iv (1 : Int32), iv (0 : Int32), iv (3 : Int32), iv p1, rv a510, .unset, .unset, .unset, .unset] [(.ref a1), (.ref a525), (.ref a525)]))) (fun t k => XS.goto X525.here hx rfl (pc0 := 85) (pc' := 90) rfl (hb hby at_85) (by decide) (by decide) k) ?_
        refine own_go (B := (T525.setTop (mkF m 92 #[iv p0, iv p1, iv p2, rv a1, rv a26, iv (1 : Int32), iv (0 : Int32), iv (3 : Int32), iv p1, rv a510, .unset, .unset, .unset, .unset] [(.int p1), (.ref a1), (.ref a525), (.ref a525)]))) (fun t k => XS.iload X525.here hx rfl (hb hby at_90) rfl k) ?_
        obtain ⟨_, _, ⟨T535, L535, k535, n535⟩, -, X535, ⟨Lc535, hQ535, l535, y535, z535⟩, st535⟩ := X525.specialBack hx (y := own_y6) rfl hown (mvT hZ w_39) (mvT hZ w_40) (mvT hZ w_41) (by decide) (backOf (W := 1) (own_pct l Z a0 hw [] a525 a1 p1 h525 n0 Z526 A525 gn525 F533 F534) hZ w_41 w_38 (by decide) (by decide)) (g := (mkF m 92 #[iv p0, iv p1, iv p2, rv a1, rv a26, iv (1 : Int32), iv (0 : Int32), iv (3 : Int32), iv p1, rv a510, .unset, .unset, .unset, .unset] [(.int p1), (.ref a1), (.ref a525), (.ref a525)])) rfl (by rw [hml]; rfl) (Steps.refl _) (a := a525) (argsL := [(.ref a1), (.int p1)]) (rest := [(.ref a525)]) (lenOf own_pd4 rfl) rfl (by show 2 * 0 + _ ≤ _; exact own_b rfl) (hb hby at_92) (fun _ _ => ⟨rfl, e525, (own_b rfl : 20 + 0 ≤ _), (own_b rfl : 43030 + 0 ≤ _)⟩)
        dsimp only [Pt.U, Pt.locs, Pt.cells, Pt.slots] at X535 l535 y535 z535 st535 hQ535
        obtain ⟨rfl, Nq535, K535, Ex535, g0_535, g1_535⟩ := hQ535
        obtain ⟨L535, X535, N535⟩ := own_absC (K := 20) (K' := 43030) X535 l535 y535 z535 N517 Nq535
        have F536 : n0 ≤ T535.heap.size := Nat.le_trans Z526 K535.1
        have F537 := Keep.trans K527 K535 (allS (Or.inr (Nat.le_trans F519.1 (Nat.le_of_eq ga525.symm))) all0)
        have F538 := Exa.keep F528 K535
        have F539 := Exa.keep F529 K535
        have F540 := Exa.keep F530 K535
        have F541 := Fld.keep F531 K535 (ninS (Ne.symm ne525_a510) nin0)
        have F542 := Fld.keep F532 K535 (ninS (Ne.symm ne525_a510) nin0)
        have F543 := Exa.keep A525 K535
        refine own_tr (B := (T535.setTop (mkF m 95 #[iv p0, iv p1, iv p2, rv a1, rv a26, iv (1 : Int32), iv (0 : Int32), iv (3 : Int32), iv p1, rv a510, .unset, .unset, .unset, .unset] [(.ref a525)]))) st535 ?_
        refine own_go (B := (T535.setTop (mkF m 97 #[iv p0, iv p1, iv p2, rv a1, rv a26, iv (1 : Int32), iv (0 : Int32), iv (3 : Int32), iv p1, rv a510, rv a525, .unset, .unset, .unset] []))) (fun t k => XS.astore X535.here hx rfl (hb hby at_95) rfl rfl (l' := #[iv p0, iv p1, iv p2, rv a1, rv a26, iv (1 : Int32), iv (0 : Int32), iv (3 : Int32), iv p1, rv a510, rv a525, .unset, .unset, .unset]) rfl k) ?_
        refine own_go (B := (T535.setTop (mkF m 99 #[iv p0, iv p1, iv p2, rv a1, rv a26, iv (1 : Int32), iv (0 : Int32), iv (3 : Int32), iv p1, rv a510, rv a525, .unset, .unset, .unset] [(.int (3 : Int32))]))) (fun t k => XS.iload X535.here hx rfl (hb hby at_97) rfl k) ?_
        have hc99 : ¬ (3 : Int32) = (0 : Int32) := (by decide)
        refine own_ifY X535 hx (hb hby at_99) (pc' := 109) (by decide) (by decide) hc99 ?_
        refine own_go (B := (T535.setTop (mkF m 111 #[iv p0, iv p1, iv p2, rv a1, rv a26, iv (1 : Int32), iv (0 : Int32), iv (3 : Int32), iv p1, rv a510, rv a525, .unset, .unset, .unset] [(.int (3 : Int32))]))) (fun t k => XS.iload X535.here hx rfl (hb hby at_109) rfl k) ?_
        refine own_go (B := (T535.setTop (mkF m 112 #[iv p0, iv p1, iv p2, rv a1, rv a26, iv (1 : Int32), iv (0 : Int32), iv (3 : Int32), iv p1, rv a510, rv a525, .unset, .unset, .unset] [(.int (1 : Int32)), (.int (3 : Int32))]))) (fun t k => own_iconst (v := (1 : Int32)) X535.here hx rfl (hb hby at_111) (by decide) k) ?_
        have hc112 : ¬ (3 : Int32) = (1 : Int32) := (by decide)
        refine own_icmpY X535 hx (hb hby at_112) (pc' := 121) (by decide) (by decide) hc112 ?_
        refine own_go (B := (T535.setTop (mkF m 123 #[iv p0, iv p1, iv p2, rv a1, rv a26, iv (1 : Int32), iv (0 : Int32), iv (3 : Int32), iv p1, rv a510, rv a525, .unset, .unset, .unset] [(.int (3 : Int32))]))) (fun t k => XS.iload X535.here hx rfl (hb hby at_121) rfl k) ?_
        refine own_go (B := (T535.setTop (mkF m 124 #[iv p0, iv p1, iv p2, rv a1, rv a26, iv (1 : Int32), iv (0 : Int32), iv (3 : Int32), iv p1, rv a510, rv a525, .unset, .unset, .unset] [(.int (2 : Int32)), (.int (3 : Int32))]))) (fun t k => own_iconst (v := (2 : Int32)) X535.here hx rfl (hb hby at_123) (by decide) k) ?_
        have hc124 : ¬ (3 : Int32) = (2 : Int32) := (by decide)
        refine own_icmpY X535 hx (hb hby at_124) (pc' := 136) (by decide) (by decide) hc124 ?_
        refine own_go (B := (T535.setTop (mkF m 137 #[iv p0, iv p1, iv p2, rv a1, rv a26, iv (1 : Int32), iv (0 : Int32), iv (3 : Int32), iv p1, rv a510, rv a525, .unset, .unset, .unset] [(.ref a1)]))) (fun t k => XS.aloadN X535.here hx rfl (hb hby at_136) rfl rfl k) ?_
        refine own_go (B := (T535.setTop (mkF m 139 #[iv p0, iv p1, iv p2, rv a1, rv a26, iv (1 : Int32), iv (0 : Int32), iv (3 : Int32), iv p1, rv a510, rv a525, rv a1, .unset, .unset] []))) (fun t k => XS.astore X535.here hx rfl (hb hby at_137) rfl rfl (l' := #[iv p0, iv p1, iv p2, rv a1, rv a26, iv (1 : Int32), iv (0 : Int32), iv (3 : Int32), iv p1, rv a510, rv a525, rv a1, .unset, .unset]) rfl k) ?_
        refine own_go (B := (T535.setTop (mkF m 141 #[iv p0, iv p1, iv p2, rv a1, rv a26, iv (1 : Int32), iv (0 : Int32), iv (3 : Int32), iv p1, rv a510, rv a525, rv a1, .unset, .unset] [(.int (3 : Int32))]))) (fun t k => XS.iload X535.here hx rfl (hb hby at_139) rfl k) ?_
        have hc141 : ¬ (3 : Int32) = (0 : Int32) := (by decide)
        refine own_ifY X535 hx (hb hby at_141) (pc' := 159) (by decide) (by decide) hc141 ?_
        refine own_go (B := (T535.setTop (mkF m 160 #[iv p0, iv p1, iv p2, rv a1, rv a26, iv (1 : Int32), iv (0 : Int32), iv (3 : Int32), iv p1, rv a510, rv a525, rv a1, .unset, .unset] [(.int (0 : Int32))]))) (fun t k => own_iconst (v := (0 : Int32)) X535.here hx rfl (hb hby at_159) (by decide) k) ?_
        refine own_go (B := (T535.setTop (mkF m 162 #[iv p0, iv p1, iv p2, rv a1, rv a26, iv (1 : Int32), iv (0 : Int32), iv (3 : Int32), iv p1, rv a510, rv a525, rv a1, iv (0 : Int32), .unset] []))) (fun t k => XS.istore X535.here hx rfl (hb hby at_160) rfl (l' := #[iv p0, iv p1, iv p2, rv a1, rv a26, iv (1 : Int32), iv (0 : Int32), iv (3 : Int32), iv p1, rv a510, rv a525, rv a1, iv (0 : Int32), .unset]) rfl k) ?_
        refine own_go (B := (T535.setTop (mkF m 164 #[iv p0, iv p1, iv p2, rv a1, rv a26, iv (1 : Int32), iv (0 : Int32), iv (3 : Int32), iv p1, rv a510, rv a525, rv a1, iv (0 : Int32), .unset] [(.ref a510)]))) (fun t k => XS.aload X535.here hx rfl (hb hby at_162) rfl rfl k) ?_
        refine own_go (B := (T535.setTop (mkF m 166 #[iv p0, iv p1, iv p2, rv a1, rv a26, iv (1 : Int32), iv (0 : Int32), iv (3 : Int32), iv p1, rv a510, rv a525, rv a1, iv (0 : Int32), .unset] [(.ref a1), (.ref a510)]))) (fun t k => XS.aload X535.here hx rfl (hb hby at_164) rfl rfl k) ?_
        obtain ⟨cq546, kq546, qa546, qb546, qc546⟩ := isOf hZ rfl F540
        obtain ⟨_, _, ⟨T546, L546, k546, n546⟩, -, X546, ⟨Lc546, hQ546, l546, y546, z546⟩, st546⟩ := X535.virtualBack hx (y := own_y7) (z := own_y7) hown (mvT hZ w_47) (mvT hZ w_48) (notFace_of_selects (args := #[]) (mvT hZ w_50)) (mvT hZ w_50) (mvT hZ w_49) (by decide) (backOf (W := 0) (own_eqbdd l Z a0 hw [] a510 a1 T535.heap n0 F538) hZ w_51 w_38 (by decide) (by decide)) qa546 qc546 (g := (mkF m 166 #[iv p0, iv p1, iv p2, rv a1, rv a26, iv (1 : Int32), iv (0 : Int32), iv (3 : Int32), iv p1, rv a510, rv a525, rv a1, iv (0 : Int32), .unset] [(.ref a1), (.ref a510)])) rfl (by rw [hml]; rfl) (Steps.refl _) (argsL := [(.ref a1)]) (rest := []) (lenOf own_pd5 rfl) rfl (by show 2 * 0 + _ ≤ _; exact own_b rfl) (hb hby at_166) (fun _ _ => ⟨rfl, rfl, (own_b rfl : 20 + 0 ≤ _), (own_b rfl : 43030 + 0 ≤ _)⟩)
        dsimp only [Pt.U, Pt.locs, Pt.cells, Pt.slots] at X546 l546 y546 z546 st546 hQ546
        obtain ⟨rfl, Nq546, eq546⟩ := hQ546
        obtain ⟨L546, X546, N546⟩ := own_absC (K := 20) (K' := 43030) X546 l546 y546 z546 N535 Nq546
        have e546 : T546.heap = T535.heap := eq546
        refine own_tr (B := (T546.setTop (mkF m 169 #[iv p0, iv p1, iv p2, rv a1, rv a26, iv (1 : Int32), iv (0 : Int32), iv (3 : Int32), iv p1, rv a510, rv a525, rv a1, iv (0 : Int32), .unset] [(.int (0 : Int32))]))) st546 ?_
        refine own_go (B := (T546.setTop (mkF m 171 #[iv p0, iv p1, iv p2, rv a1, rv a26, iv (1 : Int32), iv (0 : Int32), iv (3 : Int32), iv p1, rv a510, rv a525, rv a1, iv (0 : Int32), iv (0 : Int32)] []))) (fun t k => XS.istore X546.here hx rfl (hb hby at_169) rfl (l' := #[iv p0, iv p1, iv p2, rv a1, rv a26, iv (1 : Int32), iv (0 : Int32), iv (3 : Int32), iv p1, rv a510, rv a525, rv a1, iv (0 : Int32), iv (0 : Int32)]) rfl k) ?_
        refine own_go (B := (T546.setTop (mkF m 173 #[iv p0, iv p1, iv p2, rv a1, rv a26, iv (1 : Int32), iv (0 : Int32), iv (3 : Int32), iv p1, rv a510, rv a525, rv a1, iv (0 : Int32), iv (0 : Int32)] [(.int (0 : Int32))]))) (fun t k => XS.iload X546.here hx rfl (hb hby at_171) rfl k) ?_
        refine own_go (B := (T546.setTop (mkF m 175 #[iv p0, iv p1, iv p2, rv a1, rv a26, iv (1 : Int32), iv (0 : Int32), iv (3 : Int32), iv p1, rv a510, rv a525, rv a1, iv (0 : Int32), iv (0 : Int32)] [(.int (0 : Int32)), (.int (0 : Int32))]))) (fun t k => XS.iload X546.here hx rfl (hb hby at_173) rfl k) ?_
        have hc175 : (0 : Int32) = (0 : Int32) := (by decide)
        refine own_icmpY X546 hx (hb hby at_175) (pc' := 180) (by decide) (by decide) hc175 ?_
        refine own_go (B := (T546.setTop (mkF m 182 #[iv p0, iv p1, iv p2, rv a1, rv a26, iv (1 : Int32), iv (0 : Int32), iv (3 : Int32), iv p1, rv a510, rv a525, rv a1, iv (0 : Int32), iv (0 : Int32)] [(.ref a510)]))) (fun t k => XS.aload X546.here hx rfl (hb hby at_180) rfl rfl k) ?_
        refine own_go (B := (T546.setTop (mkF m 184 #[iv p0, iv p1, iv p2, rv a1, rv a26, iv (1 : Int32), iv (0 : Int32), iv (3 : Int32), iv p1, rv a510, rv a525, rv a1, iv (0 : Int32), iv (0 : Int32)] [(.ref a510), (.ref a510)]))) (fun t k => XS.aload X546.here hx rfl (hb hby at_182) rfl rfl k) ?_
        obtain ⟨cq547, kq547, qa547, qb547, qc547⟩ := isOf hZ e546 F540
        obtain ⟨_, _, ⟨T547, L547, k547, n547⟩, -, X547, ⟨Lc547, hQ547, l547, y547, z547⟩, st547⟩ := X546.virtualBack hx (y := own_y7) (z := own_y7) hown (mvT hZ w_47) (mvT hZ w_48) (notFace_of_selects (args := #[]) (mvT hZ w_50)) (mvT hZ w_50) (mvT hZ w_49) (by decide) (backOf (W := 0) (own_eqT l Z a0 hw [] a510 a510 a1 p0 p0 T535.heap n0 F540 F541 F541 F542 F542 rfl) hZ w_51 w_38 (by decide) (by decide)) qa547 qc547 (g := (mkF m 184 #[iv p0, iv p1, iv p2, rv a1, rv a26, iv (1 : Int32), iv (0 : Int32), iv (3 : Int32), iv p1, rv a510, rv a525, rv a1, iv (0 : Int32), iv (0 : Int32)] [(.ref a510), (.ref a510)])) rfl (by rw [hml]; rfl) (Steps.refl _) (argsL := [(.ref a510)]) (rest := []) (lenOf own_pd5 rfl) rfl (by show 2 * 0 + _ ≤ _; exact own_b rfl) (hb hby at_184) (fun _ _ => ⟨rfl, e546, (own_b rfl : 20 + 0 ≤ _), (own_b rfl : 43030 + 0 ≤ _)⟩)
        dsimp only [Pt.U, Pt.locs, Pt.cells, Pt.slots] at X547 l547 y547 z547 st547 hQ547
        obtain ⟨rfl, Nq547, eq547⟩ := hQ547
        obtain ⟨L547, X547, N547⟩ := own_absC (K := 20) (K' := 43030) X547 l547 y547 z547 N546 Nq547
        have e547 : T547.heap = T535.heap := eq547
        refine own_tr (B := (T547.setTop (mkF m 187 #[iv p0, iv p1, iv p2, rv a1, rv a26, iv (1 : Int32), iv (0 : Int32), iv (3 : Int32), iv p1, rv a510, rv a525, rv a1, iv (0 : Int32), iv (0 : Int32)] [(.int (1 : Int32))]))) st547 ?_
        have hc187 : ¬ (1 : Int32) = (0 : Int32) := (by decide)
        refine own_ifY X547 hx (hb hby at_187) (pc' := 192) (by decide) (by decide) hc187 ?_
        refine own_go (B := (T547.setTop (mkF m 194 #[iv p0, iv p1, iv p2, rv a1, rv a26, iv (1 : Int32), iv (0 : Int32), iv (3 : Int32), iv p1, rv a510, rv a525, rv a1, iv (0 : Int32), iv (0 : Int32)] [(.int (3 : Int32))]))) (fun t k => XS.iload X547.here hx rfl (hb hby at_192) rfl k) ?_
        have hc194 : ¬ (3 : Int32) = (0 : Int32) := (by decide)
        refine own_ifY X547 hx (hb hby at_194) (pc' := 211) (by decide) (by decide) hc194 ?_
        refine own_go (B := (T547.setTop (mkF m 212 #[iv p0, iv p1, iv p2, rv a1, rv a26, iv (1 : Int32), iv (0 : Int32), iv (3 : Int32), iv p1, rv a510, rv a525, rv a1, iv (0 : Int32), iv (0 : Int32)] [(.int (1 : Int32))]))) (fun t k => own_iconst (v := (1 : Int32)) X547.here hx rfl (hb hby at_211) (by decide) k) ?_
        exact own_retZ X547 hx hlk Bd.returns (hb hby at_212) (by decide) (own_b rfl) (own_b rfl) (Q := (own_law_Q Z p0 p1 p2 ca h0 n0)) ⟨rfl, N547⟩
    · refine own_go (B := (T39.setTop (mkF m 39 #[iv p0, iv p1, iv p2, rv a1, rv a26, iv (1 : Int32), .unset, .unset, .unset, .unset, .unset, .unset, .unset, .unset] [(.int (1 : Int32))]))) (fun t k => own_iconst (v := (1 : Int32)) X39.here hx rfl (hb hby at_38) (by decide) k) ?_
      refine own_go (B := (T39.setTop (mkF m 43 #[iv p0, iv p1, iv p2, rv a1, rv a26, iv (1 : Int32), .unset, .unset, .unset, .unset, .unset, .unset, .unset, .unset] [(.int (1 : Int32))]))) (fun t k => XS.goto X39.here hx rfl (pc0 := 39) (pc' := 43) rfl (hb hby at_39) (by decide) (by decide) k) ?_
      refine own_go (B := (T39.setTop (mkF m 45 #[iv p0, iv p1, iv p2, rv a1, rv a26, iv (1 : Int32), iv (1 : Int32), .unset, .unset, .unset, .unset, .unset, .unset, .unset] []))) (fun t k => XS.istore X39.here hx rfl (hb hby at_43) rfl (l' := #[iv p0, iv p1, iv p2, rv a1, rv a26, iv (1 : Int32), iv (1 : Int32), .unset, .unset, .unset, .unset, .unset, .unset, .unset]) rfl k) ?_
      refine own_go (B := (T39.setTop (mkF m 46 #[iv p0, iv p1, iv p2, rv a1, rv a26, iv (1 : Int32), iv (1 : Int32), .unset, .unset, .unset, .unset, .unset, .unset, .unset] [(.int p2)]))) (fun t k => XS.iloadN X39.here hx rfl (hb hby at_45) rfl k) ?_
      refine own_go (B := (T39.setTop (mkF m 47 #[iv p0, iv p1, iv p2, rv a1, rv a26, iv (1 : Int32), iv (1 : Int32), .unset, .unset, .unset, .unset, .unset, .unset, .unset] [(.int (2 : Int32)), (.int p2)]))) (fun t k => own_iconst (v := (2 : Int32)) X39.here hx rfl (hb hby at_46) (by decide) k) ?_
      refine own_go (B := (T39.setTop (mkF m 48 #[iv p0, iv p1, iv p2, rv a1, rv a26, iv (1 : Int32), iv (1 : Int32), .unset, .unset, .unset, .unset, .unset, .unset, .unset] [(.int ((p2.toUInt32 >>> ((2 : Int32) &&& 31).toUInt32).toInt32))]))) (fun t k => XS.iushr (x := p2) (y := (2 : Int32)) X39.here hx rfl (hb hby at_47) rfl k) ?_
      refine own_go (B := (T39.setTop (mkF m 49 #[iv p0, iv p1, iv p2, rv a1, rv a26, iv (1 : Int32), iv (1 : Int32), .unset, .unset, .unset, .unset, .unset, .unset, .unset] [(.int (3 : Int32)), (.int ((p2.toUInt32 >>> ((2 : Int32) &&& 31).toUInt32).toInt32))]))) (fun t k => own_iconst (v := (3 : Int32)) X39.here hx rfl (hb hby at_48) (by decide) k) ?_
      refine own_go (B := (T39.setTop (mkF m 50 #[iv p0, iv p1, iv p2, rv a1, rv a26, iv (1 : Int32), iv (1 : Int32), .unset, .unset, .unset, .unset, .unset, .unset, .unset] [(.int (((p2.toUInt32 >>> ((2 : Int32) &&& 31).toUInt32).toInt32) &&& (3 : Int32)))]))) (fun t k => XS.iand (x := ((p2.toUInt32 >>> ((2 : Int32) &&& 31).toUInt32).toInt32)) (y := (3 : Int32)) X39.here hx rfl (hb hby at_49) rfl k) ?_
      obtain ⟨z50, hz50⟩ : ∃ z : Int32, z = (((p2.toUInt32 >>> ((2 : Int32) &&& 31).toUInt32).toInt32) &&& (3 : Int32)) := ⟨_, rfl⟩
      rw [← hz50]
      refine own_go (B := (T39.setTop (mkF m 52 #[iv p0, iv p1, iv p2, rv a1, rv a26, iv (1 : Int32), iv (1 : Int32), iv z50, .unset, .unset, .unset, .unset, .unset, .unset] []))) (fun t k => XS.istore X39.here hx rfl (hb hby at_50) rfl (l' := #[iv p0, iv p1, iv p2, rv a1, rv a26, iv (1 : Int32), iv (1 : Int32), iv z50, .unset, .unset, .unset, .unset, .unset, .unset]) rfl k) ?_
      rcases own_c4 hz50 with rfl | rfl | rfl | rfl
      · refine own_go (B := (T39.setTop (mkF m 54 #[iv p0, iv p1, iv p2, rv a1, rv a26, iv (1 : Int32), iv (1 : Int32), iv (0 : Int32), .unset, .unset, .unset, .unset, .unset, .unset] [(.int (1 : Int32))]))) (fun t k => XS.iload X39.here hx rfl (hb hby at_52) rfl k) ?_
        have hc54 : ¬ (1 : Int32) = (0 : Int32) := (by decide)
        refine own_ifN X39 hx (hb hby at_54) (pn := 57) rfl hc54 ?_
        refine own_go (B := (T39.setTop (mkF m 58 #[iv p0, iv p1, iv p2, rv a1, rv a26, iv (1 : Int32), iv (1 : Int32), iv (0 : Int32), .unset, .unset, .unset, .unset, .unset, .unset] [(.int p0)]))) (fun t k => XS.iloadN X39.here hx rfl (hb hby at_57) rfl k) ?_
        refine own_go (B := (T39.setTop (mkF m 62 #[iv p0, iv p1, iv p2, rv a1, rv a26, iv (1 : Int32), iv (1 : Int32), iv (0 : Int32), .unset, .unset, .unset, .unset, .unset, .unset] [(.int p0)]))) (fun t k => XS.goto X39.here hx rfl (pc0 := 58) (pc' := 62) rfl (hb hby at_58) (by decide) (by decide) k) ?_
        refine own_go (B := (T39.setTop (mkF m 64 #[iv p0, iv p1, iv p2, rv a1, rv a26, iv (1 : Int32), iv (1 : Int32), iv (0 : Int32), iv p0, .unset, .unset, .unset, .unset, .unset] []))) (fun t k => XS.istore X39.here hx rfl (hb hby at_62) rfl (l' := #[iv p0, iv p1, iv p2, rv a1, rv a26, iv (1 : Int32), iv (1 : Int32), iv (0 : Int32), iv p0, .unset, .unset, .unset, .unset, .unset]) rfl k) ?_
        obtain ⟨T548, h548, X548, e548, E548, A548, D548, U548, st548⟩ := newO X39 hx hZ hown w_36 w_37 w_38 rfl (g := (mkF m 64 #[iv p0, iv p1, iv p2, rv a1, rv a26, iv (1 : Int32), iv (1 : Int32), iv (0 : Int32), iv p0, .unset, .unset, .unset, .unset, .unset] [])) rfl (hb hby at_64) (own_b rfl) (own_b rfl)
        obtain ⟨a548, ga548⟩ : ∃ z, z = T39.heap.size := ⟨_, rfl⟩
        rw [← ga548] at A548 D548 U548 st548
        refine own_go (B := (T548.setTop (mkF m 67 #[iv p0, iv p1, iv p2, rv a1, rv a26, iv (1 : Int32), iv (1 : Int32), iv (0 : Int32), iv p0, .unset, .unset, .unset, .unset, .unset] [(.ref a548)]))) st548 ?_
        have Z549 : n0 ≤ h548.size := Nat.le_trans F40 E548.1
        have K550 := Keep.ext F41 E548
        have F551 := Exa.ext E548 F42
        have F552 := Exa.ext E548 Ex39
        have gn548 : n0 ≤ a548 := Nat.le_trans F40 (Nat.le_of_eq ga548.symm)
        have ne548_a1 : a548 ≠ a1 := fun q => absurd (F42.lt) (by rw [← q, ga548]; exact Nat.lt_irrefl _)
        have ne548_a26 : a548 ≠ a26 := fun q => absurd (Ex39.lt) (by rw [← q, ga548]; exact Nat.lt_irrefl _)
        have F553 : Fld Z h548 a548 "com/example/parts_to_policy/partstopolicy/policy/PacketSet" "bdd" "Lcom/example/parts_to_policy/partstopolicy/policy/Bdd;" .null := D548 (Or.inr w_44) (ty := (.object "com/example/parts_to_policy/partstopolicy/policy/Bdd")) (by decide)
        have F554 : Fld Z h548 a548 "com/example/parts_to_policy/partstopolicy/policy/PacketSet" "node" "I" (.int (0 : Int32)) := D548 (Or.inr w_46) (ty := .int) (by decide)
        refine own_go (B := (T548.setTop (mkF m 68 #[iv p0, iv p1, iv p2, rv a1, rv a26, iv (1 : Int32), iv (1 : Int32), iv (0 : Int32), iv p0, .unset, .unset, .unset, .unset, .unset] [(.ref a548), (.ref a548)]))) (fun t k => XS.dup X548.here hx rfl (hb hby at_67) rfl rfl k) ?_
        refine own_go (B := (T548.setTop (mkF m 69 #[iv p0, iv p1, iv p2, rv a1, rv a26, iv (1 : Int32), iv (1 : Int32), iv (0 : Int32), iv p0, .unset, .unset, .unset, .unset, .unset] [(.ref a1), (.ref a548), (.ref a548)]))) (fun t k => XS.aloadN X548.here hx rfl (hb hby at_68) rfl rfl k) ?_
        refine own_go (B := (T548.setTop (mkF m 70 #[iv p0, iv p1, iv p2, rv a1, rv a26, iv (1 : Int32), iv (1 : Int32), iv (0 : Int32), iv p0, .unset, .unset, .unset, .unset, .unset] [(.int p0), (.ref a1), (.ref a548), (.ref a548)]))) (fun t k => XS.iloadN X548.here hx rfl (hb hby at_69) rfl k) ?_
        obtain ⟨_, _, ⟨T555, L555, k555, n555⟩, -, X555, ⟨Lc555, hQ555, l555, y555, z555⟩, st555⟩ := X548.specialBack hx (y := own_y6) rfl hown (mvT hZ w_39) (mvT hZ w_40) (mvT hZ w_41) (by decide) (backOf (W := 1) (own_pct l Z a0 hw [] a548 a1 p0 h548 n0 Z549 A548 gn548 F553 F554) hZ w_41 w_38 (by decide) (by decide)) (g := (mkF m 70 #[iv p0, iv p1, iv p2, rv a1, rv a26, iv (1 : Int32), iv (1 : Int32), iv (0 : Int32), iv p0, .unset, .unset, .unset, .unset, .unset] [(.int p0), (.ref a1), (.ref a548), (.ref a548)])) rfl (by rw [hml]; rfl) (Steps.refl _) (a := a548) (argsL := [(.ref a1), (.int p0)]) (rest := [(.ref a548)]) (lenOf own_pd4 rfl) rfl (by show 2 * 0 + _ ≤ _; exact own_b rfl) (hb hby at_70) (fun _ _ => ⟨rfl, e548, (own_b rfl : 19 + 0 ≤ _), (own_b rfl : 43028 + 0 ≤ _)⟩)
        dsimp only [Pt.U, Pt.locs, Pt.cells, Pt.slots] at X555 l555 y555 z555 st555 hQ555
        obtain ⟨rfl, Nq555, K555, Ex555, g0_555, g1_555⟩ := hQ555
        obtain ⟨L555, X555, N555⟩ := own_absC (K := 19) (K' := 43028) X555 l555 y555 z555 N39 Nq555
        have F556 : n0 ≤ T555.heap.size := Nat.le_trans Z549 K555.1
        have F557 := Keep.trans K550 K555 (allS (Or.inr (Nat.le_trans F41.1 (Nat.le_of_eq ga548.symm))) all0)
        have F558 := Exa.keep F551 K555
        have F559 := Exa.keep F552 K555
        have F560 := Exa.keep A548 K555
        refine own_tr (B := (T555.setTop (mkF m 73 #[iv p0, iv p1, iv p2, rv a1, rv a26, iv (1 : Int32), iv (1 : Int32), iv (0 : Int32), iv p0, .unset, .unset, .unset, .unset, .unset] [(.ref a548)]))) st555 ?_
        refine own_go (B := (T555.setTop (mkF m 75 #[iv p0, iv p1, iv p2, rv a1, rv a26, iv (1 : Int32), iv (1 : Int32), iv (0 : Int32), iv p0, rv a548, .unset, .unset, .unset, .unset] []))) (fun t k => XS.astore X555.here hx rfl (hb hby at_73) rfl rfl (l' := #[iv p0, iv p1, iv p2, rv a1, rv a26, iv (1 : Int32), iv (1 : Int32), iv (0 : Int32), iv p0, rv a548, .unset, .unset, .unset, .unset]) rfl k) ?_
        obtain ⟨T563, h563, X563, e563, E563, A563, D563, U563, st563⟩ := newO X555 hx hZ hown w_36 w_37 w_38 rfl (g := (mkF m 75 #[iv p0, iv p1, iv p2, rv a1, rv a26, iv (1 : Int32), iv (1 : Int32), iv (0 : Int32), iv p0, rv a548, .unset, .unset, .unset, .unset] [])) rfl (hb hby at_75) (own_b rfl) (own_b rfl)
        obtain ⟨a563, ga563⟩ : ∃ z, z = T555.heap.size := ⟨_, rfl⟩
        rw [← ga563] at A563 D563 U563 st563
        refine own_go (B := (T563.setTop (mkF m 78 #[iv p0, iv p1, iv p2, rv a1, rv a26, iv (1 : Int32), iv (1 : Int32), iv (0 : Int32), iv p0, rv a548, .unset, .unset, .unset, .unset] [(.ref a563)]))) st563 ?_
        have Z564 : n0 ≤ h563.size := Nat.le_trans F556 E563.1
        have K565 := Keep.ext F557 E563
        have F566 := Exa.ext E563 F558
        have F567 := Exa.ext E563 F559
        have F568 := Exa.ext E563 Ex555
        have F569 := Fld.ext E563 g0_555
        have F570 := Fld.ext E563 g1_555
        have gn563 : n0 ≤ a563 := Nat.le_trans F556 (Nat.le_of_eq ga563.symm)
        have ne563_a1 : a563 ≠ a1 := fun q => absurd (F558.lt) (by rw [← q, ga563]; exact Nat.lt_irrefl _)
        have ne563_a26 : a563 ≠ a26 := fun q => absurd (F559.lt) (by rw [← q, ga563]; exact Nat.lt_irrefl _)
        have ne563_a548 : a563 ≠ a548 := fun q => absurd (Ex555.lt) (by rw [← q, ga563]; exact Nat.lt_irrefl _)
        have F571 : Fld Z h563 a563 "com/example/parts_to_policy/partstopolicy/policy/PacketSet" "bdd" "Lcom/example/parts_to_policy/partstopolicy/policy/Bdd;" .null := D563 (Or.inr w_44) (ty := (.object "com/example/parts_to_policy/partstopolicy/policy/Bdd")) (by decide)
        have F572 : Fld Z h563 a563 "com/example/parts_to_policy/partstopolicy/policy/PacketSet" "node" "I" (.int (0 : Int32)) := D563 (Or.inr w_46) (ty := .int) (by decide)
        refine own_go (B := (T563.setTop (mkF m 79 #[iv p0, iv p1, iv p2, rv a1, rv a26, iv (1 : Int32), iv (1 : Int32), iv (0 : Int32), iv p0, rv a548, .unset, .unset, .unset, .unset] [(.ref a563), (.ref a563)]))) (fun t k => XS.dup X563.here hx rfl (hb hby at_78) rfl rfl k) ?_
        refine own_go (B := (T563.setTop (mkF m 81 #[iv p0, iv p1, iv p2, rv a1, rv a26, iv (1 : Int32), iv (1 : Int32), iv (0 : Int32), iv p0, rv a548, .unset, .unset, .unset, .unset] [(.int (1 : Int32)), (.ref a563), (.ref a563)]))) (fun t k => XS.iload X563.here hx rfl (hb hby at_79) rfl k) ?_
        have hc81 : ¬ (1 : Int32) = (0 : Int32) := (by decide)
        refine own_ifN X563 hx (hb hby at_81) (pn := 84) rfl hc81 ?_
        refine own_go (B := (T563.setTop (mkF m 85 #[iv p0, iv p1, iv p2, rv a1, rv a26, iv (1 : Int32), iv (1 : Int32), iv (0 : Int32), iv p0, rv a548, .unset, .unset, .unset, .unset] [(.ref a1), (.ref a563), (.ref a563)]))) (fun t k => XS.aloadN X563.here hx rfl (hb hby at_84) rfl rfl k) ?_
        refine own_go (B := (T563.setTop (mkF m 90 #[iv p0, iv p1, iv p2, rv a1, rv a26, iv (1 : Int32), iv (1 : Int32), iv (0 : Int32), iv p0, rv a548, .unset, .unset, .unset, .unset] [(.ref a1), (.ref a563), (.ref a563)]))) (fun t k => XS.goto X563.here hx rfl (pc0 := 85) (pc' := 90) rfl (hb hby at_85) (by decide) (by decide) k) ?_
        refine own_go (B := (T563.setTop (mkF m 92 #[iv p0, iv p1, iv p2, rv a1, rv a26, iv (1 : Int32), iv (1 : Int32), iv (0 : Int32), iv p0, rv a548, .unset, .unset, .unset, .unset] [(.int p0), (.ref a1), (.ref a563), (.ref a563)]))) (fun t k => XS.iload X563.here hx rfl (hb hby at_90) rfl k) ?_
        obtain ⟨_, _, ⟨T573, L573, k573, n573⟩, -, X573, ⟨Lc573, hQ573, l573, y573, z573⟩, st573⟩ := X563.specialBack hx (y := own_y6) rfl hown (mvT hZ w_39) (mvT hZ w_40) (mvT hZ w_41) (by decide) (backOf (W := 1) (own_pct l Z a0 hw [] a563 a1 p0 h563 n0 Z564 A563 gn563 F571 F572) hZ w_41 w_38 (by decide) (by decide)) (g := (mkF m 92 #[iv p0, iv p1, iv p2, rv a1, rv a26, iv (1 : Int32), iv (1 : Int32), iv (0 : Int32), iv p0, rv a548, .unset, .unset, .unset, .unset] [(.int p0), (.ref a1), (.ref a563), (.ref a563)])) rfl (by rw [hml]; rfl) (Steps.refl _) (a := a563) (argsL := [(.ref a1), (.int p0)]) (rest := [(.ref a563)]) (lenOf own_pd4 rfl) rfl (by show 2 * 0 + _ ≤ _; exact own_b rfl) (hb hby at_92) (fun _ _ => ⟨rfl, e563, (own_b rfl : 20 + 0 ≤ _), (own_b rfl : 43030 + 0 ≤ _)⟩)
        dsimp only [Pt.U, Pt.locs, Pt.cells, Pt.slots] at X573 l573 y573 z573 st573 hQ573
        obtain ⟨rfl, Nq573, K573, Ex573, g0_573, g1_573⟩ := hQ573
        obtain ⟨L573, X573, N573⟩ := own_absC (K := 20) (K' := 43030) X573 l573 y573 z573 N555 Nq573
        have F574 : n0 ≤ T573.heap.size := Nat.le_trans Z564 K573.1
        have F575 := Keep.trans K565 K573 (allS (Or.inr (Nat.le_trans F557.1 (Nat.le_of_eq ga563.symm))) all0)
        have F576 := Exa.keep F566 K573
        have F577 := Exa.keep F567 K573
        have F578 := Exa.keep F568 K573
        have F579 := Fld.keep F569 K573 (ninS (Ne.symm ne563_a548) nin0)
        have F580 := Fld.keep F570 K573 (ninS (Ne.symm ne563_a548) nin0)
        have F581 := Exa.keep A563 K573
        refine own_tr (B := (T573.setTop (mkF m 95 #[iv p0, iv p1, iv p2, rv a1, rv a26, iv (1 : Int32), iv (1 : Int32), iv (0 : Int32), iv p0, rv a548, .unset, .unset, .unset, .unset] [(.ref a563)]))) st573 ?_
        refine own_go (B := (T573.setTop (mkF m 97 #[iv p0, iv p1, iv p2, rv a1, rv a26, iv (1 : Int32), iv (1 : Int32), iv (0 : Int32), iv p0, rv a548, rv a563, .unset, .unset, .unset] []))) (fun t k => XS.astore X573.here hx rfl (hb hby at_95) rfl rfl (l' := #[iv p0, iv p1, iv p2, rv a1, rv a26, iv (1 : Int32), iv (1 : Int32), iv (0 : Int32), iv p0, rv a548, rv a563, .unset, .unset, .unset]) rfl k) ?_
        refine own_go (B := (T573.setTop (mkF m 99 #[iv p0, iv p1, iv p2, rv a1, rv a26, iv (1 : Int32), iv (1 : Int32), iv (0 : Int32), iv p0, rv a548, rv a563, .unset, .unset, .unset] [(.int (0 : Int32))]))) (fun t k => XS.iload X573.here hx rfl (hb hby at_97) rfl k) ?_
        have hc99 : (0 : Int32) = (0 : Int32) := (by decide)
        refine own_ifN X573 hx (hb hby at_99) (pn := 102) rfl hc99 ?_
        refine own_go (B := (T573.setTop (mkF m 104 #[iv p0, iv p1, iv p2, rv a1, rv a26, iv (1 : Int32), iv (1 : Int32), iv (0 : Int32), iv p0, rv a548, rv a563, .unset, .unset, .unset] [(.ref a563)]))) (fun t k => XS.aload X573.here hx rfl (hb hby at_102) rfl rfl k) ?_
        refine own_go (B := (T573.setTop (mkF m 106 #[iv p0, iv p1, iv p2, rv a1, rv a26, iv (1 : Int32), iv (1 : Int32), iv (0 : Int32), iv p0, rv a548, rv a563, rv a563, .unset, .unset] []))) (fun t k => XS.astore X573.here hx rfl (hb hby at_104) rfl rfl (l' := #[iv p0, iv p1, iv p2, rv a1, rv a26, iv (1 : Int32), iv (1 : Int32), iv (0 : Int32), iv p0, rv a548, rv a563, rv a563, .unset, .unset]) rfl k) ?_
        refine own_go (B := (T573.setTop (mkF m 139 #[iv p0, iv p1, iv p2, rv a1, rv a26, iv (1 : Int32), iv (1 : Int32), iv (0 : Int32), iv p0, rv a548, rv a563, rv a563, .unset, .unset] []))) (fun t k => XS.goto X573.here hx rfl (pc0 := 106) (pc' := 139) rfl (hb hby at_106) (by decide) (by decide) k) ?_
        refine own_go (B := (T573.setTop (mkF m 141 #[iv p0, iv p1, iv p2, rv a1, rv a26, iv (1 : Int32), iv (1 : Int32), iv (0 : Int32), iv p0, rv a548, rv a563, rv a563, .unset, .unset] [(.int (0 : Int32))]))) (fun t k => XS.iload X573.here hx rfl (hb hby at_139) rfl k) ?_
        have hc141 : (0 : Int32) = (0 : Int32) := (by decide)
        refine own_ifN X573 hx (hb hby at_141) (pn := 144) rfl hc141 ?_
        refine own_go (B := (T573.setTop (mkF m 146 #[iv p0, iv p1, iv p2, rv a1, rv a26, iv (1 : Int32), iv (1 : Int32), iv (0 : Int32), iv p0, rv a548, rv a563, rv a563, .unset, .unset] [(.int (1 : Int32))]))) (fun t k => XS.iload X573.here hx rfl (hb hby at_144) rfl k) ?_
        have hc146 : ¬ (1 : Int32) = (0 : Int32) := (by decide)
        refine own_ifN X573 hx (hb hby at_146) (pn := 149) rfl hc146 ?_
        refine own_go (B := (T573.setTop (mkF m 151 #[iv p0, iv p1, iv p2, rv a1, rv a26, iv (1 : Int32), iv (1 : Int32), iv (0 : Int32), iv p0, rv a548, rv a563, rv a563, .unset, .unset] [(.int p0)]))) (fun t k => XS.iload X573.here hx rfl (hb hby at_149) rfl k) ?_
        refine own_go (B := (T573.setTop (mkF m 152 #[iv p0, iv p1, iv p2, rv a1, rv a26, iv (1 : Int32), iv (1 : Int32), iv (0 : Int32), iv p0, rv a548, rv a563, rv a563, .unset, .unset] [(.int p0), (.int p0)]))) (fun t k => XS.iloadN X573.here hx rfl (hb hby at_151) rfl k) ?_
        have hc152 : p0 = p0 := rfl
        refine own_icmpN X573 hx (hb hby at_152) (pn := 155) rfl hc152 ?_
        refine own_go (B := (T573.setTop (mkF m 156 #[iv p0, iv p1, iv p2, rv a1, rv a26, iv (1 : Int32), iv (1 : Int32), iv (0 : Int32), iv p0, rv a548, rv a563, rv a563, .unset, .unset] [(.int (1 : Int32))]))) (fun t k => own_iconst (v := (1 : Int32)) X573.here hx rfl (hb hby at_155) (by decide) k) ?_
        refine own_go (B := (T573.setTop (mkF m 160 #[iv p0, iv p1, iv p2, rv a1, rv a26, iv (1 : Int32), iv (1 : Int32), iv (0 : Int32), iv p0, rv a548, rv a563, rv a563, .unset, .unset] [(.int (1 : Int32))]))) (fun t k => XS.goto X573.here hx rfl (pc0 := 156) (pc' := 160) rfl (hb hby at_156) (by decide) (by decide) k) ?_
        refine own_go (B := (T573.setTop (mkF m 162 #[iv p0, iv p1, iv p2, rv a1, rv a26, iv (1 : Int32), iv (1 : Int32), iv (0 : Int32), iv p0, rv a548, rv a563, rv a563, iv (1 : Int32), .unset] []))) (fun t k => XS.istore X573.here hx rfl (hb hby at_160) rfl (l' := #[iv p0, iv p1, iv p2, rv a1, rv a26, iv (1 : Int32), iv (1 : Int32), iv (0 : Int32), iv p0, rv a548, rv a563, rv a563, iv (1 : Int32), .unset]) rfl k) ?_
        refine own_go (B := (T573.setTop (mkF m 164 #[iv p0, iv p1, iv p2, rv a1, rv a26, iv (1 : Int32), iv (1 : Int32), iv (0 : Int32), iv p0, rv a548, rv a563, rv a563, iv (1 : Int32), .unset] [(.ref a548)]))) (fun t k => XS.aload X573.here hx rfl (hb hby at_162) rfl rfl k) ?_
        refine own_go (B := (T573.setTop (mkF m 166 #[iv p0, iv p1, iv p2, rv a1, rv a26, iv (1 : Int32), iv (1 : Int32), iv (0 : Int32), iv p0, rv a548, rv a563, rv a563, iv (1 : Int32), .unset] [(.ref a563), (.ref a548)]))) (fun t k => XS.aload X573.here hx rfl (hb hby at_164) rfl rfl k) ?_
        obtain ⟨cq584, kq584, qa584, qb584, qc584⟩ := isOf hZ rfl F578
        obtain ⟨_, _, ⟨T584, L584, k584, n584⟩, -, X584, ⟨Lc584, hQ584, l584, y584, z584⟩, st584⟩ := X573.virtualBack hx (y := own_y7) (z := own_y7) hown (mvT hZ w_47) (mvT hZ w_48) (notFace_of_selects (args := #[]) (mvT hZ w_50)) (mvT hZ w_50) (mvT hZ w_49) (by decide) (backOf (W := 0) (own_eqT l Z a0 hw [] a548 a563 a1 p0 p0 T573.heap n0 Ex573 F579 g0_573 F580 g1_573 rfl) hZ w_51 w_38 (by decide) (by decide)) qa584 qc584 (g := (mkF m 166 #[iv p0, iv p1, iv p2, rv a1, rv a26, iv (1 : Int32), iv (1 : Int32), iv (0 : Int32), iv p0, rv a548, rv a563, rv a563, iv (1 : Int32), .unset] [(.ref a563), (.ref a548)])) rfl (by rw [hml]; rfl) (Steps.refl _) (argsL := [(.ref a563)]) (rest := []) (lenOf own_pd5 rfl) rfl (by show 2 * 0 + _ ≤ _; exact own_b rfl) (hb hby at_166) (fun _ _ => ⟨rfl, rfl, (own_b rfl : 20 + 0 ≤ _), (own_b rfl : 43030 + 0 ≤ _)⟩)
        dsimp only [Pt.U, Pt.locs, Pt.cells, Pt.slots] at X584 l584 y584 z584 st584 hQ584
        obtain ⟨rfl, Nq584, eq584⟩ := hQ584
        obtain ⟨L584, X584, N584⟩ := own_absC (K := 20) (K' := 43030) X584 l584 y584 z584 N573 Nq584
        have e584 : T584.heap = T573.heap := eq584
        refine own_tr (B := (T584.setTop (mkF m 169 #[iv p0, iv p1, iv p2, rv a1, rv a26, iv (1 : Int32), iv (1 : Int32), iv (0 : Int32), iv p0, rv a548, rv a563, rv a563, iv (1 : Int32), .unset] [(.int (1 : Int32))]))) st584 ?_
        refine own_go (B := (T584.setTop (mkF m 171 #[iv p0, iv p1, iv p2, rv a1, rv a26, iv (1 : Int32), iv (1 : Int32), iv (0 : Int32), iv p0, rv a548, rv a563, rv a563, iv (1 : Int32), iv (1 : Int32)] []))) (fun t k => XS.istore X584.here hx rfl (hb hby at_169) rfl (l' := #[iv p0, iv p1, iv p2, rv a1, rv a26, iv (1 : Int32), iv (1 : Int32), iv (0 : Int32), iv p0, rv a548, rv a563, rv a563, iv (1 : Int32), iv (1 : Int32)]) rfl k) ?_
        refine own_go (B := (T584.setTop (mkF m 173 #[iv p0, iv p1, iv p2, rv a1, rv a26, iv (1 : Int32), iv (1 : Int32), iv (0 : Int32), iv p0, rv a548, rv a563, rv a563, iv (1 : Int32), iv (1 : Int32)] [(.int (1 : Int32))]))) (fun t k => XS.iload X584.here hx rfl (hb hby at_171) rfl k) ?_
        refine own_go (B := (T584.setTop (mkF m 175 #[iv p0, iv p1, iv p2, rv a1, rv a26, iv (1 : Int32), iv (1 : Int32), iv (0 : Int32), iv p0, rv a548, rv a563, rv a563, iv (1 : Int32), iv (1 : Int32)] [(.int (1 : Int32)), (.int (1 : Int32))]))) (fun t k => XS.iload X584.here hx rfl (hb hby at_173) rfl k) ?_
        have hc175 : (1 : Int32) = (1 : Int32) := (by decide)
        refine own_icmpY X584 hx (hb hby at_175) (pc' := 180) (by decide) (by decide) hc175 ?_
        refine own_go (B := (T584.setTop (mkF m 182 #[iv p0, iv p1, iv p2, rv a1, rv a26, iv (1 : Int32), iv (1 : Int32), iv (0 : Int32), iv p0, rv a548, rv a563, rv a563, iv (1 : Int32), iv (1 : Int32)] [(.ref a548)]))) (fun t k => XS.aload X584.here hx rfl (hb hby at_180) rfl rfl k) ?_
        refine own_go (B := (T584.setTop (mkF m 184 #[iv p0, iv p1, iv p2, rv a1, rv a26, iv (1 : Int32), iv (1 : Int32), iv (0 : Int32), iv p0, rv a548, rv a563, rv a563, iv (1 : Int32), iv (1 : Int32)] [(.ref a548), (.ref a548)]))) (fun t k => XS.aload X584.here hx rfl (hb hby at_182) rfl rfl k) ?_
        obtain ⟨cq585, kq585, qa585, qb585, qc585⟩ := isOf hZ e584 F578
        obtain ⟨_, _, ⟨T585, L585, k585, n585⟩, -, X585, ⟨Lc585, hQ585, l585, y585, z585⟩, st585⟩ := X584.virtualBack hx (y := own_y7) (z := own_y7) hown (mvT hZ w_47) (mvT hZ w_48) (notFace_of_selects (args := #[]) (mvT hZ w_50)) (mvT hZ w_50) (mvT hZ w_49) (by decide) (backOf (W := 0) (own_eqT l Z a0 hw [] a548 a548 a1 p0 p0 T573.heap n0 F578 F579 F579 F580 F580 rfl) hZ w_51 w_38 (by decide) (by decide)) qa585 qc585 (g := (mkF m 184 #[iv p0, iv p1, iv p2, rv a1, rv a26, iv (1 : Int32), iv (1 : Int32), iv (0 : Int32), iv p0, rv a548, rv a563, rv a563, iv (1 : Int32), iv (1 : Int32)] [(.ref a548), (.ref a548)])) rfl (by rw [hml]; rfl) (Steps.refl _) (argsL := [(.ref a548)]) (rest := []) (lenOf own_pd5 rfl) rfl (by show 2 * 0 + _ ≤ _; exact own_b rfl) (hb hby at_184) (fun _ _ => ⟨rfl, e584, (own_b rfl : 20 + 0 ≤ _), (own_b rfl : 43030 + 0 ≤ _)⟩)
        dsimp only [Pt.U, Pt.locs, Pt.cells, Pt.slots] at X585 l585 y585 z585 st585 hQ585
        obtain ⟨rfl, Nq585, eq585⟩ := hQ585
        obtain ⟨L585, X585, N585⟩ := own_absC (K := 20) (K' := 43030) X585 l585 y585 z585 N584 Nq585
        have e585 : T585.heap = T573.heap := eq585
        refine own_tr (B := (T585.setTop (mkF m 187 #[iv p0, iv p1, iv p2, rv a1, rv a26, iv (1 : Int32), iv (1 : Int32), iv (0 : Int32), iv p0, rv a548, rv a563, rv a563, iv (1 : Int32), iv (1 : Int32)] [(.int (1 : Int32))]))) st585 ?_
        have hc187 : ¬ (1 : Int32) = (0 : Int32) := (by decide)
        refine own_ifY X585 hx (hb hby at_187) (pc' := 192) (by decide) (by decide) hc187 ?_
        refine own_go (B := (T585.setTop (mkF m 194 #[iv p0, iv p1, iv p2, rv a1, rv a26, iv (1 : Int32), iv (1 : Int32), iv (0 : Int32), iv p0, rv a548, rv a563, rv a563, iv (1 : Int32), iv (1 : Int32)] [(.int (0 : Int32))]))) (fun t k => XS.iload X585.here hx rfl (hb hby at_192) rfl k) ?_
        have hc194 : (0 : Int32) = (0 : Int32) := (by decide)
        refine own_ifN X585 hx (hb hby at_194) (pn := 197) rfl hc194 ?_
        refine own_go (B := (T585.setTop (mkF m 199 #[iv p0, iv p1, iv p2, rv a1, rv a26, iv (1 : Int32), iv (1 : Int32), iv (0 : Int32), iv p0, rv a548, rv a563, rv a563, iv (1 : Int32), iv (1 : Int32)] [(.ref a563)]))) (fun t k => XS.aload X585.here hx rfl (hb hby at_197) rfl rfl k) ?_
        refine own_go (B := (T585.setTop (mkF m 201 #[iv p0, iv p1, iv p2, rv a1, rv a26, iv (1 : Int32), iv (1 : Int32), iv (0 : Int32), iv p0, rv a548, rv a563, rv a563, iv (1 : Int32), iv (1 : Int32)] [(.ref a548), (.ref a563)]))) (fun t k => XS.aload X585.here hx rfl (hb hby at_199) rfl rfl k) ?_
        obtain ⟨cq586, kq586, qa586, qb586, qc586⟩ := isOf hZ e585 Ex573
        obtain ⟨_, _, ⟨T586, L586, k586, n586⟩, -, X586, ⟨Lc586, hQ586, l586, y586, z586⟩, st586⟩ := X585.virtualBack hx (y := own_y7) (z := own_y7) hown (mvT hZ w_47) (mvT hZ w_48) (notFace_of_selects (args := #[]) (mvT hZ w_50)) (mvT hZ w_50) (mvT hZ w_49) (by decide) (backOf (W := 0) (own_eqT l Z a0 hw [] a563 a548 a1 p0 p0 T573.heap n0 F578 g0_573 F579 g1_573 F580 rfl) hZ w_51 w_38 (by decide) (by decide)) qa586 qc586 (g := (mkF m 201 #[iv p0, iv p1, iv p2, rv a1, rv a26, iv (1 : Int32), iv (1 : Int32), iv (0 : Int32), iv p0, rv a548, rv a563, rv a563, iv (1 : Int32), iv (1 : Int32)] [(.ref a548), (.ref a563)])) rfl (by rw [hml]; rfl) (Steps.refl _) (argsL := [(.ref a548)]) (rest := []) (lenOf own_pd5 rfl) rfl (by show 2 * 0 + _ ≤ _; exact own_b rfl) (hb hby at_201) (fun _ _ => ⟨rfl, e585, (own_b rfl : 20 + 0 ≤ _), (own_b rfl : 43030 + 0 ≤ _)⟩)
        dsimp only [Pt.U, Pt.locs, Pt.cells, Pt.slots] at X586 l586 y586 z586 st586 hQ586
        obtain ⟨rfl, Nq586, eq586⟩ := hQ586
        obtain ⟨L586, X586, N586⟩ := own_absC (K := 20) (K' := 43030) X586 l586 y586 z586 N585 Nq586
        have e586 : T586.heap = T573.heap := eq586
        refine own_tr (B := (T586.setTop (mkF m 204 #[iv p0, iv p1, iv p2, rv a1, rv a26, iv (1 : Int32), iv (1 : Int32), iv (0 : Int32), iv p0, rv a548, rv a563, rv a563, iv (1 : Int32), iv (1 : Int32)] [(.int (1 : Int32))]))) st586 ?_
        refine own_go (B := (T586.setTop (mkF m 206 #[iv p0, iv p1, iv p2, rv a1, rv a26, iv (1 : Int32), iv (1 : Int32), iv (0 : Int32), iv p0, rv a548, rv a563, rv a563, iv (1 : Int32), iv (1 : Int32)] [(.int (1 : Int32)), (.int (1 : Int32))]))) (fun t k => XS.iload X586.here hx rfl (hb hby at_204) rfl k) ?_
        have hc206 : (1 : Int32) = (1 : Int32) := (by decide)
        refine own_icmpY X586 hx (hb hby at_206) (pc' := 211) (by decide) (by decide) hc206 ?_
        refine own_go (B := (T586.setTop (mkF m 212 #[iv p0, iv p1, iv p2, rv a1, rv a26, iv (1 : Int32), iv (1 : Int32), iv (0 : Int32), iv p0, rv a548, rv a563, rv a563, iv (1 : Int32), iv (1 : Int32)] [(.int (1 : Int32))]))) (fun t k => own_iconst (v := (1 : Int32)) X586.here hx rfl (hb hby at_211) (by decide) k) ?_
        exact own_retZ X586 hx hlk Bd.returns (hb hby at_212) (by decide) (own_b rfl) (own_b rfl) (Q := (own_law_Q Z p0 p1 p2 ca h0 n0)) ⟨rfl, N586⟩
      · refine own_go (B := (T39.setTop (mkF m 54 #[iv p0, iv p1, iv p2, rv a1, rv a26, iv (1 : Int32), iv (1 : Int32), iv (1 : Int32), .unset, .unset, .unset, .unset, .unset, .unset] [(.int (1 : Int32))]))) (fun t k => XS.iload X39.here hx rfl (hb hby at_52) rfl k) ?_
        have hc54 : ¬ (1 : Int32) = (0 : Int32) := (by decide)
        refine own_ifN X39 hx (hb hby at_54) (pn := 57) rfl hc54 ?_
        refine own_go (B := (T39.setTop (mkF m 58 #[iv p0, iv p1, iv p2, rv a1, rv a26, iv (1 : Int32), iv (1 : Int32), iv (1 : Int32), .unset, .unset, .unset, .unset, .unset, .unset] [(.int p0)]))) (fun t k => XS.iloadN X39.here hx rfl (hb hby at_57) rfl k) ?_
        refine own_go (B := (T39.setTop (mkF m 62 #[iv p0, iv p1, iv p2, rv a1, rv a26, iv (1 : Int32), iv (1 : Int32), iv (1 : Int32), .unset, .unset, .unset, .unset, .unset, .unset] [(.int p0)]))) (fun t k => XS.goto X39.here hx rfl (pc0 := 58) (pc' := 62) rfl (hb hby at_58) (by decide) (by decide) k) ?_
        refine own_go (B := (T39.setTop (mkF m 64 #[iv p0, iv p1, iv p2, rv a1, rv a26, iv (1 : Int32), iv (1 : Int32), iv (1 : Int32), iv p0, .unset, .unset, .unset, .unset, .unset] []))) (fun t k => XS.istore X39.here hx rfl (hb hby at_62) rfl (l' := #[iv p0, iv p1, iv p2, rv a1, rv a26, iv (1 : Int32), iv (1 : Int32), iv (1 : Int32), iv p0, .unset, .unset, .unset, .unset, .unset]) rfl k) ?_
        obtain ⟨T587, h587, X587, e587, E587, A587, D587, U587, st587⟩ := newO X39 hx hZ hown w_36 w_37 w_38 rfl (g := (mkF m 64 #[iv p0, iv p1, iv p2, rv a1, rv a26, iv (1 : Int32), iv (1 : Int32), iv (1 : Int32), iv p0, .unset, .unset, .unset, .unset, .unset] [])) rfl (hb hby at_64) (own_b rfl) (own_b rfl)
        obtain ⟨a587, ga587⟩ : ∃ z, z = T39.heap.size := ⟨_, rfl⟩
        rw [← ga587] at A587 D587 U587 st587
        refine own_go (B := (T587.setTop (mkF m 67 #[iv p0, iv p1, iv p2, rv a1, rv a26, iv (1 : Int32), iv (1 : Int32), iv (1 : Int32), iv p0, .unset, .unset, .unset, .unset, .unset] [(.ref a587)]))) st587 ?_
        have Z588 : n0 ≤ h587.size := Nat.le_trans F40 E587.1
        have K589 := Keep.ext F41 E587
        have F590 := Exa.ext E587 F42
        have F591 := Exa.ext E587 Ex39
        have gn587 : n0 ≤ a587 := Nat.le_trans F40 (Nat.le_of_eq ga587.symm)
        have ne587_a1 : a587 ≠ a1 := fun q => absurd (F42.lt) (by rw [← q, ga587]; exact Nat.lt_irrefl _)
        have ne587_a26 : a587 ≠ a26 := fun q => absurd (Ex39.lt) (by rw [← q, ga587]; exact Nat.lt_irrefl _)
        have F592 : Fld Z h587 a587 "com/example/parts_to_policy/partstopolicy/policy/PacketSet" "bdd" "Lcom/example/parts_to_policy/partstopolicy/policy/Bdd;" .null := D587 (Or.inr w_44) (ty := (.object "com/example/parts_to_policy/partstopolicy/policy/Bdd")) (by decide)
        have F593 : Fld Z h587 a587 "com/example/parts_to_policy/partstopolicy/policy/PacketSet" "node" "I" (.int (0 : Int32)) := D587 (Or.inr w_46) (ty := .int) (by decide)
        refine own_go (B := (T587.setTop (mkF m 68 #[iv p0, iv p1, iv p2, rv a1, rv a26, iv (1 : Int32), iv (1 : Int32), iv (1 : Int32), iv p0, .unset, .unset, .unset, .unset, .unset] [(.ref a587), (.ref a587)]))) (fun t k => XS.dup X587.here hx rfl (hb hby at_67) rfl rfl k) ?_
        refine own_go (B := (T587.setTop (mkF m 69 #[iv p0, iv p1, iv p2, rv a1, rv a26, iv (1 : Int32), iv (1 : Int32), iv (1 : Int32), iv p0, .unset, .unset, .unset, .unset, .unset] [(.ref a1), (.ref a587), (.ref a587)]))) (fun t k => XS.aloadN X587.here hx rfl (hb hby at_68) rfl rfl k) ?_
        refine own_go (B := (T587.setTop (mkF m 70 #[iv p0, iv p1, iv p2, rv a1, rv a26, iv (1 : Int32), iv (1 : Int32), iv (1 : Int32), iv p0, .unset, .unset, .unset, .unset, .unset] [(.int p0), (.ref a1), (.ref a587), (.ref a587)]))) (fun t k => XS.iloadN X587.here hx rfl (hb hby at_69) rfl k) ?_
        obtain ⟨_, _, ⟨T594, L594, k594, n594⟩, -, X594, ⟨Lc594, hQ594, l594, y594, z594⟩, st594⟩ := X587.specialBack hx (y := own_y6) rfl hown (mvT hZ w_39) (mvT hZ w_40) (mvT hZ w_41) (by decide) (backOf (W := 1) (own_pct l Z a0 hw [] a587 a1 p0 h587 n0 Z588 A587 gn587 F592 F593) hZ w_41 w_38 (by decide) (by decide)) (g := (mkF m 70 #[iv p0, iv p1, iv p2, rv a1, rv a26, iv (1 : Int32), iv (1 : Int32), iv (1 : Int32), iv p0, .unset, .unset, .unset, .unset, .unset] [(.int p0), (.ref a1), (.ref a587), (.ref a587)])) rfl (by rw [hml]; rfl) (Steps.refl _) (a := a587) (argsL := [(.ref a1), (.int p0)]) (rest := [(.ref a587)]) (lenOf own_pd4 rfl) rfl (by show 2 * 0 + _ ≤ _; exact own_b rfl) (hb hby at_70) (fun _ _ => ⟨rfl, e587, (own_b rfl : 19 + 0 ≤ _), (own_b rfl : 43028 + 0 ≤ _)⟩)
        dsimp only [Pt.U, Pt.locs, Pt.cells, Pt.slots] at X594 l594 y594 z594 st594 hQ594
        obtain ⟨rfl, Nq594, K594, Ex594, g0_594, g1_594⟩ := hQ594
        obtain ⟨L594, X594, N594⟩ := own_absC (K := 19) (K' := 43028) X594 l594 y594 z594 N39 Nq594
        have F595 : n0 ≤ T594.heap.size := Nat.le_trans Z588 K594.1
        have F596 := Keep.trans K589 K594 (allS (Or.inr (Nat.le_trans F41.1 (Nat.le_of_eq ga587.symm))) all0)
        have F597 := Exa.keep F590 K594
        have F598 := Exa.keep F591 K594
        have F599 := Exa.keep A587 K594
        refine own_tr (B := (T594.setTop (mkF m 73 #[iv p0, iv p1, iv p2, rv a1, rv a26, iv (1 : Int32), iv (1 : Int32), iv (1 : Int32), iv p0, .unset, .unset, .unset, .unset, .unset] [(.ref a587)]))) st594 ?_
        refine own_go (B := (T594.setTop (mkF m 75 #[iv p0, iv p1, iv p2, rv a1, rv a26, iv (1 : Int32), iv (1 : Int32), iv (1 : Int32), iv p0, rv a587, .unset, .unset, .unset, .unset] []))) (fun t k => XS.astore X594.here hx rfl (hb hby at_73) rfl rfl (l' := #[iv p0, iv p1, iv p2, rv a1, rv a26, iv (1 : Int32), iv (1 : Int32), iv (1 : Int32), iv p0, rv a587, .unset, .unset, .unset, .unset]) rfl k) ?_
        obtain ⟨T602, h602, X602, e602, E602, A602, D602, U602, st602⟩ := newO X594 hx hZ hown w_36 w_37 w_38 rfl (g := (mkF m 75 #[iv p0, iv p1, iv p2, rv a1, rv a26, iv (1 : Int32), iv (1 : Int32), iv (1 : Int32), iv p0, rv a587, .unset, .unset, .unset, .unset] [])) rfl (hb hby at_75) (own_b rfl) (own_b rfl)
        obtain ⟨a602, ga602⟩ : ∃ z, z = T594.heap.size := ⟨_, rfl⟩
        rw [← ga602] at A602 D602 U602 st602
        refine own_go (B := (T602.setTop (mkF m 78 #[iv p0, iv p1, iv p2, rv a1, rv a26, iv (1 : Int32), iv (1 : Int32), iv (1 : Int32), iv p0, rv a587, .unset, .unset, .unset, .unset] [(.ref a602)]))) st602 ?_
        have Z603 : n0 ≤ h602.size := Nat.le_trans F595 E602.1
        have K604 := Keep.ext F596 E602
        have F605 := Exa.ext E602 F597
        have F606 := Exa.ext E602 F598
        have F607 := Exa.ext E602 Ex594
        have F608 := Fld.ext E602 g0_594
        have F609 := Fld.ext E602 g1_594
        have gn602 : n0 ≤ a602 := Nat.le_trans F595 (Nat.le_of_eq ga602.symm)
        have ne602_a1 : a602 ≠ a1 := fun q => absurd (F597.lt) (by rw [← q, ga602]; exact Nat.lt_irrefl _)
        have ne602_a26 : a602 ≠ a26 := fun q => absurd (F598.lt) (by rw [← q, ga602]; exact Nat.lt_irrefl _)
        have ne602_a587 : a602 ≠ a587 := fun q => absurd (Ex594.lt) (by rw [← q, ga602]; exact Nat.lt_irrefl _)
        have F610 : Fld Z h602 a602 "com/example/parts_to_policy/partstopolicy/policy/PacketSet" "bdd" "Lcom/example/parts_to_policy/partstopolicy/policy/Bdd;" .null := D602 (Or.inr w_44) (ty := (.object "com/example/parts_to_policy/partstopolicy/policy/Bdd")) (by decide)
        have F611 : Fld Z h602 a602 "com/example/parts_to_policy/partstopolicy/policy/PacketSet" "node" "I" (.int (0 : Int32)) := D602 (Or.inr w_46) (ty := .int) (by decide)
        refine own_go (B := (T602.setTop (mkF m 79 #[iv p0, iv p1, iv p2, rv a1, rv a26, iv (1 : Int32), iv (1 : Int32), iv (1 : Int32), iv p0, rv a587, .unset, .unset, .unset, .unset] [(.ref a602), (.ref a602)]))) (fun t k => XS.dup X602.here hx rfl (hb hby at_78) rfl rfl k) ?_
        refine own_go (B := (T602.setTop (mkF m 81 #[iv p0, iv p1, iv p2, rv a1, rv a26, iv (1 : Int32), iv (1 : Int32), iv (1 : Int32), iv p0, rv a587, .unset, .unset, .unset, .unset] [(.int (1 : Int32)), (.ref a602), (.ref a602)]))) (fun t k => XS.iload X602.here hx rfl (hb hby at_79) rfl k) ?_
        have hc81 : ¬ (1 : Int32) = (0 : Int32) := (by decide)
        refine own_ifN X602 hx (hb hby at_81) (pn := 84) rfl hc81 ?_
        refine own_go (B := (T602.setTop (mkF m 85 #[iv p0, iv p1, iv p2, rv a1, rv a26, iv (1 : Int32), iv (1 : Int32), iv (1 : Int32), iv p0, rv a587, .unset, .unset, .unset, .unset] [(.ref a1), (.ref a602), (.ref a602)]))) (fun t k => XS.aloadN X602.here hx rfl (hb hby at_84) rfl rfl k) ?_
        refine own_go (B := (T602.setTop (mkF m 90 #[iv p0, iv p1, iv p2, rv a1, rv a26, iv (1 : Int32), iv (1 : Int32), iv (1 : Int32), iv p0, rv a587, .unset, .unset, .unset, .unset] [(.ref a1), (.ref a602), (.ref a602)]))) (fun t k => XS.goto X602.here hx rfl (pc0 := 85) (pc' := 90) rfl (hb hby at_85) (by decide) (by decide) k) ?_
        refine own_go (B := (T602.setTop (mkF m 92 #[iv p0, iv p1, iv p2, rv a1, rv a26, iv (1 : Int32), iv (1 : Int32), iv (1 : Int32), iv p0, rv a587, .unset, .unset, .unset, .unset] [(.int p0), (.ref a1), (.ref a602), (.ref a602)]))) (fun t k => XS.iload X602.here hx rfl (hb hby at_90) rfl k) ?_
        obtain ⟨_, _, ⟨T612, L612, k612, n612⟩, -, X612, ⟨Lc612, hQ612, l612, y612, z612⟩, st612⟩ := X602.specialBack hx (y := own_y6) rfl hown (mvT hZ w_39) (mvT hZ w_40) (mvT hZ w_41) (by decide) (backOf (W := 1) (own_pct l Z a0 hw [] a602 a1 p0 h602 n0 Z603 A602 gn602 F610 F611) hZ w_41 w_38 (by decide) (by decide)) (g := (mkF m 92 #[iv p0, iv p1, iv p2, rv a1, rv a26, iv (1 : Int32), iv (1 : Int32), iv (1 : Int32), iv p0, rv a587, .unset, .unset, .unset, .unset] [(.int p0), (.ref a1), (.ref a602), (.ref a602)])) rfl (by rw [hml]; rfl) (Steps.refl _) (a := a602) (argsL := [(.ref a1), (.int p0)]) (rest := [(.ref a602)]) (lenOf own_pd4 rfl) rfl (by show 2 * 0 + _ ≤ _; exact own_b rfl) (hb hby at_92) (fun _ _ => ⟨rfl, e602, (own_b rfl : 20 + 0 ≤ _), (own_b rfl : 43030 + 0 ≤ _)⟩)
        dsimp only [Pt.U, Pt.locs, Pt.cells, Pt.slots] at X612 l612 y612 z612 st612 hQ612
        obtain ⟨rfl, Nq612, K612, Ex612, g0_612, g1_612⟩ := hQ612
        obtain ⟨L612, X612, N612⟩ := own_absC (K := 20) (K' := 43030) X612 l612 y612 z612 N594 Nq612
        have F613 : n0 ≤ T612.heap.size := Nat.le_trans Z603 K612.1
        have F614 := Keep.trans K604 K612 (allS (Or.inr (Nat.le_trans F596.1 (Nat.le_of_eq ga602.symm))) all0)
        have F615 := Exa.keep F605 K612
        have F616 := Exa.keep F606 K612
        have F617 := Exa.keep F607 K612
        have F618 := Fld.keep F608 K612 (ninS (Ne.symm ne602_a587) nin0)
        have F619 := Fld.keep F609 K612 (ninS (Ne.symm ne602_a587) nin0)
        have F620 := Exa.keep A602 K612
        refine own_tr (B := (T612.setTop (mkF m 95 #[iv p0, iv p1, iv p2, rv a1, rv a26, iv (1 : Int32), iv (1 : Int32), iv (1 : Int32), iv p0, rv a587, .unset, .unset, .unset, .unset] [(.ref a602)]))) st612 ?_
        refine own_go (B := (T612.setTop (mkF m 97 #[iv p0, iv p1, iv p2, rv a1, rv a26, iv (1 : Int32), iv (1 : Int32), iv (1 : Int32), iv p0, rv a587, rv a602, .unset, .unset, .unset] []))) (fun t k => XS.astore X612.here hx rfl (hb hby at_95) rfl rfl (l' := #[iv p0, iv p1, iv p2, rv a1, rv a26, iv (1 : Int32), iv (1 : Int32), iv (1 : Int32), iv p0, rv a587, rv a602, .unset, .unset, .unset]) rfl k) ?_
        refine own_go (B := (T612.setTop (mkF m 99 #[iv p0, iv p1, iv p2, rv a1, rv a26, iv (1 : Int32), iv (1 : Int32), iv (1 : Int32), iv p0, rv a587, rv a602, .unset, .unset, .unset] [(.int (1 : Int32))]))) (fun t k => XS.iload X612.here hx rfl (hb hby at_97) rfl k) ?_
        have hc99 : ¬ (1 : Int32) = (0 : Int32) := (by decide)
        refine own_ifY X612 hx (hb hby at_99) (pc' := 109) (by decide) (by decide) hc99 ?_
        refine own_go (B := (T612.setTop (mkF m 111 #[iv p0, iv p1, iv p2, rv a1, rv a26, iv (1 : Int32), iv (1 : Int32), iv (1 : Int32), iv p0, rv a587, rv a602, .unset, .unset, .unset] [(.int (1 : Int32))]))) (fun t k => XS.iload X612.here hx rfl (hb hby at_109) rfl k) ?_
        refine own_go (B := (T612.setTop (mkF m 112 #[iv p0, iv p1, iv p2, rv a1, rv a26, iv (1 : Int32), iv (1 : Int32), iv (1 : Int32), iv p0, rv a587, rv a602, .unset, .unset, .unset] [(.int (1 : Int32)), (.int (1 : Int32))]))) (fun t k => own_iconst (v := (1 : Int32)) X612.here hx rfl (hb hby at_111) (by decide) k) ?_
        have hc112 : (1 : Int32) = (1 : Int32) := (by decide)
        refine own_icmpN X612 hx (hb hby at_112) (pn := 115) rfl hc112 ?_
        refine own_go (B := (T612.setTop (mkF m 116 #[iv p0, iv p1, iv p2, rv a1, rv a26, iv (1 : Int32), iv (1 : Int32), iv (1 : Int32), iv p0, rv a587, rv a602, .unset, .unset, .unset] [.null]))) (fun t k => XS.aconstNull X612.here hx rfl (hb hby at_115) k) ?_
        refine own_go (B := (T612.setTop (mkF m 118 #[iv p0, iv p1, iv p2, rv a1, rv a26, iv (1 : Int32), iv (1 : Int32), iv (1 : Int32), iv p0, rv a587, rv a602, .val .null, .unset, .unset] []))) (fun t k => XS.astore X612.here hx rfl (hb hby at_116) rfl rfl (l' := #[iv p0, iv p1, iv p2, rv a1, rv a26, iv (1 : Int32), iv (1 : Int32), iv (1 : Int32), iv p0, rv a587, rv a602, .val .null, .unset, .unset]) rfl k) ?_
        refine own_go (B := (T612.setTop (mkF m 139 #[iv p0, iv p1, iv p2, rv a1, rv a26, iv (1 : Int32), iv (1 : Int32), iv (1 : Int32), iv p0, rv a587, rv a602, .val .null, .unset, .unset] []))) (fun t k => XS.goto X612.here hx rfl (pc0 := 118) (pc' := 139) rfl (hb hby at_118) (by decide) (by decide) k) ?_
        refine own_go (B := (T612.setTop (mkF m 141 #[iv p0, iv p1, iv p2, rv a1, rv a26, iv (1 : Int32), iv (1 : Int32), iv (1 : Int32), iv p0, rv a587, rv a602, .val .null, .unset, .unset] [(.int (1 : Int32))]))) (fun t k => XS.iload X612.here hx rfl (hb hby at_139) rfl k) ?_
        have hc141 : ¬ (1 : Int32) = (0 : Int32) := (by decide)
        refine own_ifY X612 hx (hb hby at_141) (pc' := 159) (by decide) (by decide) hc141 ?_
        refine own_go (B := (T612.setTop (mkF m 160 #[iv p0, iv p1, iv p2, rv a1, rv a26, iv (1 : Int32), iv (1 : Int32), iv (1 : Int32), iv p0, rv a587, rv a602, .val .null, .unset, .unset] [(.int (0 : Int32))]))) (fun t k => own_iconst (v := (0 : Int32)) X612.here hx rfl (hb hby at_159) (by decide) k) ?_
        refine own_go (B := (T612.setTop (mkF m 162 #[iv p0, iv p1, iv p2, rv a1, rv a26, iv (1 : Int32), iv (1 : Int32), iv (1 : Int32), iv p0, rv a587, rv a602, .val .null, iv (0 : Int32), .unset] []))) (fun t k => XS.istore X612.here hx rfl (hb hby at_160) rfl (l' := #[iv p0, iv p1, iv p2, rv a1, rv a26, iv (1 : Int32), iv (1 : Int32), iv (1 : Int32), iv p0, rv a587, rv a602, .val .null, iv (0 : Int32), .unset]) rfl k) ?_
        refine own_go (B := (T612.setTop (mkF m 164 #[iv p0, iv p1, iv p2, rv a1, rv a26, iv (1 : Int32), iv (1 : Int32), iv (1 : Int32), iv p0, rv a587, rv a602, .val .null, iv (0 : Int32), .unset] [(.ref a587)]))) (fun t k => XS.aload X612.here hx rfl (hb hby at_162) rfl rfl k) ?_
        refine own_go (B := (T612.setTop (mkF m 166 #[iv p0, iv p1, iv p2, rv a1, rv a26, iv (1 : Int32), iv (1 : Int32), iv (1 : Int32), iv p0, rv a587, rv a602, .val .null, iv (0 : Int32), .unset] [.null, (.ref a587)]))) (fun t k => XS.aload X612.here hx rfl (hb hby at_164) rfl rfl k) ?_
        obtain ⟨cq623, kq623, qa623, qb623, qc623⟩ := isOf hZ rfl F617
        obtain ⟨_, _, ⟨T623, L623, k623, n623⟩, -, X623, ⟨Lc623, hQ623, l623, y623, z623⟩, st623⟩ := X612.virtualBack hx (y := own_y7) (z := own_y7) hown (mvT hZ w_47) (mvT hZ w_48) (notFace_of_selects (args := #[]) (mvT hZ w_50)) (mvT hZ w_50) (mvT hZ w_49) (by decide) (backOf (W := 0) (own_eqnull l Z a0 hw [] a587 T612.heap n0) hZ w_51 w_38 (by decide) (by decide)) qa623 qc623 (g := (mkF m 166 #[iv p0, iv p1, iv p2, rv a1, rv a26, iv (1 : Int32), iv (1 : Int32), iv (1 : Int32), iv p0, rv a587, rv a602, .val .null, iv (0 : Int32), .unset] [.null, (.ref a587)])) rfl (by rw [hml]; rfl) (Steps.refl _) (argsL := [.null]) (rest := []) (lenOf own_pd5 rfl) rfl (by show 2 * 0 + _ ≤ _; exact own_b rfl) (hb hby at_166) (fun _ _ => ⟨rfl, rfl, (own_b rfl : 20 + 0 ≤ _), (own_b rfl : 43030 + 0 ≤ _)⟩)
        dsimp only [Pt.U, Pt.locs, Pt.cells, Pt.slots] at X623 l623 y623 z623 st623 hQ623
        obtain ⟨rfl, Nq623, eq623⟩ := hQ623
        obtain ⟨L623, X623, N623⟩ := own_absC (K := 20) (K' := 43030) X623 l623 y623 z623 N612 Nq623
        have e623 : T623.heap = T612.heap := eq623
        refine own_tr (B := (T623.setTop (mkF m 169 #[iv p0, iv p1, iv p2, rv a1, rv a26, iv (1 : Int32), iv (1 : Int32), iv (1 : Int32), iv p0, rv a587, rv a602, .val .null, iv (0 : Int32), .unset] [(.int (0 : Int32))]))) st623 ?_
        refine own_go (B := (T623.setTop (mkF m 171 #[iv p0, iv p1, iv p2, rv a1, rv a26, iv (1 : Int32), iv (1 : Int32), iv (1 : Int32), iv p0, rv a587, rv a602, .val .null, iv (0 : Int32), iv (0 : Int32)] []))) (fun t k => XS.istore X623.here hx rfl (hb hby at_169) rfl (l' := #[iv p0, iv p1, iv p2, rv a1, rv a26, iv (1 : Int32), iv (1 : Int32), iv (1 : Int32), iv p0, rv a587, rv a602, .val .null, iv (0 : Int32), iv (0 : Int32)]) rfl k) ?_
        refine own_go (B := (T623.setTop (mkF m 173 #[iv p0, iv p1, iv p2, rv a1, rv a26, iv (1 : Int32), iv (1 : Int32), iv (1 : Int32), iv p0, rv a587, rv a602, .val .null, iv (0 : Int32), iv (0 : Int32)] [(.int (0 : Int32))]))) (fun t k => XS.iload X623.here hx rfl (hb hby at_171) rfl k) ?_
        refine own_go (B := (T623.setTop (mkF m 175 #[iv p0, iv p1, iv p2, rv a1, rv a26, iv (1 : Int32), iv (1 : Int32), iv (1 : Int32), iv p0, rv a587, rv a602, .val .null, iv (0 : Int32), iv (0 : Int32)] [(.int (0 : Int32)), (.int (0 : Int32))]))) (fun t k => XS.iload X623.here hx rfl (hb hby at_173) rfl k) ?_
        have hc175 : (0 : Int32) = (0 : Int32) := (by decide)
        refine own_icmpY X623 hx (hb hby at_175) (pc' := 180) (by decide) (by decide) hc175 ?_
        refine own_go (B := (T623.setTop (mkF m 182 #[iv p0, iv p1, iv p2, rv a1, rv a26, iv (1 : Int32), iv (1 : Int32), iv (1 : Int32), iv p0, rv a587, rv a602, .val .null, iv (0 : Int32), iv (0 : Int32)] [(.ref a587)]))) (fun t k => XS.aload X623.here hx rfl (hb hby at_180) rfl rfl k) ?_
        refine own_go (B := (T623.setTop (mkF m 184 #[iv p0, iv p1, iv p2, rv a1, rv a26, iv (1 : Int32), iv (1 : Int32), iv (1 : Int32), iv p0, rv a587, rv a602, .val .null, iv (0 : Int32), iv (0 : Int32)] [(.ref a587), (.ref a587)]))) (fun t k => XS.aload X623.here hx rfl (hb hby at_182) rfl rfl k) ?_
        obtain ⟨cq624, kq624, qa624, qb624, qc624⟩ := isOf hZ e623 F617
        obtain ⟨_, _, ⟨T624, L624, k624, n624⟩, -, X624, ⟨Lc624, hQ624, l624, y624, z624⟩, st624⟩ := X623.virtualBack hx (y := own_y7) (z := own_y7) hown (mvT hZ w_47) (mvT hZ w_48) (notFace_of_selects (args := #[]) (mvT hZ w_50)) (mvT hZ w_50) (mvT hZ w_49) (by decide) (backOf (W := 0) (own_eqT l Z a0 hw [] a587 a587 a1 p0 p0 T612.heap n0 F617 F618 F618 F619 F619 rfl) hZ w_51 w_38 (by decide) (by decide)) qa624 qc624 (g := (mkF m 184 #[iv p0, iv p1, iv p2, rv a1, rv a26, iv (1 : Int32), iv (1 : Int32), iv (1 : Int32), iv p0, rv a587, rv a602, .val .null, iv (0 : Int32), iv (0 : Int32)] [(.ref a587), (.ref a587)])) rfl (by rw [hml]; rfl) (Steps.refl _) (argsL := [(.ref a587)]) (rest := []) (lenOf own_pd5 rfl) rfl (by show 2 * 0 + _ ≤ _; exact own_b rfl) (hb hby at_184) (fun _ _ => ⟨rfl, e623, (own_b rfl : 20 + 0 ≤ _), (own_b rfl : 43030 + 0 ≤ _)⟩)
        dsimp only [Pt.U, Pt.locs, Pt.cells, Pt.slots] at X624 l624 y624 z624 st624 hQ624
        obtain ⟨rfl, Nq624, eq624⟩ := hQ624
        obtain ⟨L624, X624, N624⟩ := own_absC (K := 20) (K' := 43030) X624 l624 y624 z624 N623 Nq624
        have e624 : T624.heap = T612.heap := eq624
        refine own_tr (B := (T624.setTop (mkF m 187 #[iv p0, iv p1, iv p2, rv a1, rv a26, iv (1 : Int32), iv (1 : Int32), iv (1 : Int32), iv p0, rv a587, rv a602, .val .null, iv (0 : Int32), iv (0 : Int32)] [(.int (1 : Int32))]))) st624 ?_
        have hc187 : ¬ (1 : Int32) = (0 : Int32) := (by decide)
        refine own_ifY X624 hx (hb hby at_187) (pc' := 192) (by decide) (by decide) hc187 ?_
        refine own_go (B := (T624.setTop (mkF m 194 #[iv p0, iv p1, iv p2, rv a1, rv a26, iv (1 : Int32), iv (1 : Int32), iv (1 : Int32), iv p0, rv a587, rv a602, .val .null, iv (0 : Int32), iv (0 : Int32)] [(.int (1 : Int32))]))) (fun t k => XS.iload X624.here hx rfl (hb hby at_192) rfl k) ?_
        have hc194 : ¬ (1 : Int32) = (0 : Int32) := (by decide)
        refine own_ifY X624 hx (hb hby at_194) (pc' := 211) (by decide) (by decide) hc194 ?_
        refine own_go (B := (T624.setTop (mkF m 212 #[iv p0, iv p1, iv p2, rv a1, rv a26, iv (1 : Int32), iv (1 : Int32), iv (1 : Int32), iv p0, rv a587, rv a602, .val .null, iv (0 : Int32), iv (0 : Int32)] [(.int (1 : Int32))]))) (fun t k => own_iconst (v := (1 : Int32)) X624.here hx rfl (hb hby at_211) (by decide) k) ?_
        exact own_retZ X624 hx hlk Bd.returns (hb hby at_212) (by decide) (own_b rfl) (own_b rfl) (Q := (own_law_Q Z p0 p1 p2 ca h0 n0)) ⟨rfl, N624⟩
      · refine own_go (B := (T39.setTop (mkF m 54 #[iv p0, iv p1, iv p2, rv a1, rv a26, iv (1 : Int32), iv (1 : Int32), iv (2 : Int32), .unset, .unset, .unset, .unset, .unset, .unset] [(.int (1 : Int32))]))) (fun t k => XS.iload X39.here hx rfl (hb hby at_52) rfl k) ?_
        have hc54 : ¬ (1 : Int32) = (0 : Int32) := (by decide)
        refine own_ifN X39 hx (hb hby at_54) (pn := 57) rfl hc54 ?_
        refine own_go (B := (T39.setTop (mkF m 58 #[iv p0, iv p1, iv p2, rv a1, rv a26, iv (1 : Int32), iv (1 : Int32), iv (2 : Int32), .unset, .unset, .unset, .unset, .unset, .unset] [(.int p0)]))) (fun t k => XS.iloadN X39.here hx rfl (hb hby at_57) rfl k) ?_
        refine own_go (B := (T39.setTop (mkF m 62 #[iv p0, iv p1, iv p2, rv a1, rv a26, iv (1 : Int32), iv (1 : Int32), iv (2 : Int32), .unset, .unset, .unset, .unset, .unset, .unset] [(.int p0)]))) (fun t k => XS.goto X39.here hx rfl (pc0 := 58) (pc' := 62) rfl (hb hby at_58) (by decide) (by decide) k) ?_
        refine own_go (B := (T39.setTop (mkF m 64 #[iv p0, iv p1, iv p2, rv a1, rv a26, iv (1 : Int32), iv (1 : Int32), iv (2 : Int32), iv p0, .unset, .unset, .unset, .unset, .unset] []))) (fun t k => XS.istore X39.here hx rfl (hb hby at_62) rfl (l' := #[iv p0, iv p1, iv p2, rv a1, rv a26, iv (1 : Int32), iv (1 : Int32), iv (2 : Int32), iv p0, .unset, .unset, .unset, .unset, .unset]) rfl k) ?_
        obtain ⟨T625, h625, X625, e625, E625, A625, D625, U625, st625⟩ := newO X39 hx hZ hown w_36 w_37 w_38 rfl (g := (mkF m 64 #[iv p0, iv p1, iv p2, rv a1, rv a26, iv (1 : Int32), iv (1 : Int32), iv (2 : Int32), iv p0, .unset, .unset, .unset, .unset, .unset] [])) rfl (hb hby at_64) (own_b rfl) (own_b rfl)
        obtain ⟨a625, ga625⟩ : ∃ z, z = T39.heap.size := ⟨_, rfl⟩
        rw [← ga625] at A625 D625 U625 st625
        refine own_go (B := (T625.setTop (mkF m 67 #[iv p0, iv p1, iv p2, rv a1, rv a26, iv (1 : Int32), iv (1 : Int32), iv (2 : Int32), iv p0, .unset, .unset, .unset, .unset, .unset] [(.ref a625)]))) st625 ?_
        have Z626 : n0 ≤ h625.size := Nat.le_trans F40 E625.1
        have K627 := Keep.ext F41 E625
        have F628 := Exa.ext E625 F42
        have F629 := Exa.ext E625 Ex39
        have gn625 : n0 ≤ a625 := Nat.le_trans F40 (Nat.le_of_eq ga625.symm)
        have ne625_a1 : a625 ≠ a1 := fun q => absurd (F42.lt) (by rw [← q, ga625]; exact Nat.lt_irrefl _)
        have ne625_a26 : a625 ≠ a26 := fun q => absurd (Ex39.lt) (by rw [← q, ga625]; exact Nat.lt_irrefl _)
        have F630 : Fld Z h625 a625 "com/example/parts_to_policy/partstopolicy/policy/PacketSet" "bdd" "Lcom/example/parts_to_policy/partstopolicy/policy/Bdd;" .null := D625 (Or.inr w_44) (ty := (.object "com/example/parts_to_policy/partstopolicy/policy/Bdd")) (by decide)
        have F631 : Fld Z h625 a625 "com/example/parts_to_policy/partstopolicy/policy/PacketSet" "node" "I" (.int (0 : Int32)) := D625 (Or.inr w_46) (ty := .int) (by decide)
        refine own_go (B := (T625.setTop (mkF m 68 #[iv p0, iv p1, iv p2, rv a1, rv a26, iv (1 : Int32), iv (1 : Int32), iv (2 : Int32), iv p0, .unset, .unset, .unset, .unset, .unset] [(.ref a625), (.ref a625)]))) (fun t k => XS.dup X625.here hx rfl (hb hby at_67) rfl rfl k) ?_
        refine own_go (B := (T625.setTop (mkF m 69 #[iv p0, iv p1, iv p2, rv a1, rv a26, iv (1 : Int32), iv (1 : Int32), iv (2 : Int32), iv p0, .unset, .unset, .unset, .unset, .unset] [(.ref a1), (.ref a625), (.ref a625)]))) (fun t k => XS.aloadN X625.here hx rfl (hb hby at_68) rfl rfl k) ?_
        refine own_go (B := (T625.setTop (mkF m 70 #[iv p0, iv p1, iv p2, rv a1, rv a26, iv (1 : Int32), iv (1 : Int32), iv (2 : Int32), iv p0, .unset, .unset, .unset, .unset, .unset] [(.int p0), (.ref a1), (.ref a625), (.ref a625)]))) (fun t k => XS.iloadN X625.here hx rfl (hb hby at_69) rfl k) ?_
        obtain ⟨_, _, ⟨T632, L632, k632, n632⟩, -, X632, ⟨Lc632, hQ632, l632, y632, z632⟩, st632⟩ := X625.specialBack hx (y := own_y6) rfl hown (mvT hZ w_39) (mvT hZ w_40) (mvT hZ w_41) (by decide) (backOf (W := 1) (own_pct l Z a0 hw [] a625 a1 p0 h625 n0 Z626 A625 gn625 F630 F631) hZ w_41 w_38 (by decide) (by decide)) (g := (mkF m 70 #[iv p0, iv p1, iv p2, rv a1, rv a26, iv (1 : Int32), iv (1 : Int32), iv (2 : Int32), iv p0, .unset, .unset, .unset, .unset, .unset] [(.int p0), (.ref a1), (.ref a625), (.ref a625)])) rfl (by rw [hml]; rfl) (Steps.refl _) (a := a625) (argsL := [(.ref a1), (.int p0)]) (rest := [(.ref a625)]) (lenOf own_pd4 rfl) rfl (by show 2 * 0 + _ ≤ _; exact own_b rfl) (hb hby at_70) (fun _ _ => ⟨rfl, e625, (own_b rfl : 19 + 0 ≤ _), (own_b rfl : 43028 + 0 ≤ _)⟩)
        dsimp only [Pt.U, Pt.locs, Pt.cells, Pt.slots] at X632 l632 y632 z632 st632 hQ632
        obtain ⟨rfl, Nq632, K632, Ex632, g0_632, g1_632⟩ := hQ632
        obtain ⟨L632, X632, N632⟩ := own_absC (K := 19) (K' := 43028) X632 l632 y632 z632 N39 Nq632
        have F633 : n0 ≤ T632.heap.size := Nat.le_trans Z626 K632.1
        have F634 := Keep.trans K627 K632 (allS (Or.inr (Nat.le_trans F41.1 (Nat.le_of_eq ga625.symm))) all0)
        have F635 := Exa.keep F628 K632
        have F636 := Exa.keep F629 K632
        have F637 := Exa.keep A625 K632
        refine own_tr (B := (T632.setTop (mkF m 73 #[iv p0, iv p1, iv p2, rv a1, rv a26, iv (1 : Int32), iv (1 : Int32), iv (2 : Int32), iv p0, .unset, .unset, .unset, .unset, .unset] [(.ref a625)]))) st632 ?_
        refine own_go (B := (T632.setTop (mkF m 75 #[iv p0, iv p1, iv p2, rv a1, rv a26, iv (1 : Int32), iv (1 : Int32), iv (2 : Int32), iv p0, rv a625, .unset, .unset, .unset, .unset] []))) (fun t k => XS.astore X632.here hx rfl (hb hby at_73) rfl rfl (l' := #[iv p0, iv p1, iv p2, rv a1, rv a26, iv (1 : Int32), iv (1 : Int32), iv (2 : Int32), iv p0, rv a625, .unset, .unset, .unset, .unset]) rfl k) ?_
        obtain ⟨T640, h640, X640, e640, E640, A640, D640, U640, st640⟩ := newO X632 hx hZ hown w_36 w_37 w_38 rfl (g := (mkF m 75 #[iv p0, iv p1, iv p2, rv a1, rv a26, iv (1 : Int32), iv (1 : Int32), iv (2 : Int32), iv p0, rv a625, .unset, .unset, .unset, .unset] [])) rfl (hb hby at_75) (own_b rfl) (own_b rfl)
        obtain ⟨a640, ga640⟩ : ∃ z, z = T632.heap.size := ⟨_, rfl⟩
        rw [← ga640] at A640 D640 U640 st640
        refine own_go (B := (T640.setTop (mkF m 78 #[iv p0, iv p1, iv p2, rv a1, rv a26, iv (1 : Int32), iv (1 : Int32), iv (2 : Int32), iv p0, rv a625, .unset, .unset, .unset, .unset] [(.ref a640)]))) st640 ?_
        have Z641 : n0 ≤ h640.size := Nat.le_trans F633 E640.1
        have K642 := Keep.ext F634 E640
        have F643 := Exa.ext E640 F635
        have F644 := Exa.ext E640 F636
        have F645 := Exa.ext E640 Ex632
        have F646 := Fld.ext E640 g0_632
        have F647 := Fld.ext E640 g1_632
        have gn640 : n0 ≤ a640 := Nat.le_trans F633 (Nat.le_of_eq ga640.symm)
        have ne640_a1 : a640 ≠ a1 := fun q => absurd (F635.lt) (by rw [← q, ga640]; exact Nat.lt_irrefl _)
        have ne640_a26 : a640 ≠ a26 := fun q => absurd (F636.lt) (by rw [← q, ga640]; exact Nat.lt_irrefl _)
        have ne640_a625 : a640 ≠ a625 := fun q => absurd (Ex632.lt) (by rw [← q, ga640]; exact Nat.lt_irrefl _)
        have F648 : Fld Z h640 a640 "com/example/parts_to_policy/partstopolicy/policy/PacketSet" "bdd" "Lcom/example/parts_to_policy/partstopolicy/policy/Bdd;" .null := D640 (Or.inr w_44) (ty := (.object "com/example/parts_to_policy/partstopolicy/policy/Bdd")) (by decide)
        have F649 : Fld Z h640 a640 "com/example/parts_to_policy/partstopolicy/policy/PacketSet" "node" "I" (.int (0 : Int32)) := D640 (Or.inr w_46) (ty := .int) (by decide)
        refine own_go (B := (T640.setTop (mkF m 79 #[iv p0, iv p1, iv p2, rv a1, rv a26, iv (1 : Int32), iv (1 : Int32), iv (2 : Int32), iv p0, rv a625, .unset, .unset, .unset, .unset] [(.ref a640), (.ref a640)]))) (fun t k => XS.dup X640.here hx rfl (hb hby at_78) rfl rfl k) ?_
        refine own_go (B := (T640.setTop (mkF m 81 #[iv p0, iv p1, iv p2, rv a1, rv a26, iv (1 : Int32), iv (1 : Int32), iv (2 : Int32), iv p0, rv a625, .unset, .unset, .unset, .unset] [(.int (1 : Int32)), (.ref a640), (.ref a640)]))) (fun t k => XS.iload X640.here hx rfl (hb hby at_79) rfl k) ?_
        have hc81 : ¬ (1 : Int32) = (0 : Int32) := (by decide)
        refine own_ifN X640 hx (hb hby at_81) (pn := 84) rfl hc81 ?_
        refine own_go (B := (T640.setTop (mkF m 85 #[iv p0, iv p1, iv p2, rv a1, rv a26, iv (1 : Int32), iv (1 : Int32), iv (2 : Int32), iv p0, rv a625, .unset, .unset, .unset, .unset] [(.ref a1), (.ref a640), (.ref a640)]))) (fun t k => XS.aloadN X640.here hx rfl (hb hby at_84) rfl rfl k) ?_
        refine own_go (B := (T640.setTop (mkF m 90 #[iv p0, iv p1, iv p2, rv a1, rv a26, iv (1 : Int32), iv (1 : Int32), iv (2 : Int32), iv p0, rv a625, .unset, .unset, .unset, .unset] [(.ref a1), (.ref a640), (.ref a640)]))) (fun t k => XS.goto X640.here hx rfl (pc0 := 85) (pc' := 90) rfl (hb hby at_85) (by decide) (by decide) k) ?_
        refine own_go (B := (T640.setTop (mkF m 92 #[iv p0, iv p1, iv p2, rv a1, rv a26, iv (1 : Int32), iv (1 : Int32), iv (2 : Int32), iv p0, rv a625, .unset, .unset, .unset, .unset] [(.int p0), (.ref a1), (.ref a640), (.ref a640)]))) (fun t k => XS.iload X640.here hx rfl (hb hby at_90) rfl k) ?_
        obtain ⟨_, _, ⟨T650, L650, k650, n650⟩, -, X650, ⟨Lc650, hQ650, l650, y650, z650⟩, st650⟩ := X640.specialBack hx (y := own_y6) rfl hown (mvT hZ w_39) (mvT hZ w_40) (mvT hZ w_41) (by decide) (backOf (W := 1) (own_pct l Z a0 hw [] a640 a1 p0 h640 n0 Z641 A640 gn640 F648 F649) hZ w_41 w_38 (by decide) (by decide)) (g := (mkF m 92 #[iv p0, iv p1, iv p2, rv a1, rv a26, iv (1 : Int32), iv (1 : Int32), iv (2 : Int32), iv p0, rv a625, .unset, .unset, .unset, .unset] [(.int p0), (.ref a1), (.ref a640), (.ref a640)])) rfl (by rw [hml]; rfl) (Steps.refl _) (a := a640) (argsL := [(.ref a1), (.int p0)]) (rest := [(.ref a640)]) (lenOf own_pd4 rfl) rfl (by show 2 * 0 + _ ≤ _; exact own_b rfl) (hb hby at_92) (fun _ _ => ⟨rfl, e640, (own_b rfl : 20 + 0 ≤ _), (own_b rfl : 43030 + 0 ≤ _)⟩)
        dsimp only [Pt.U, Pt.locs, Pt.cells, Pt.slots] at X650 l650 y650 z650 st650 hQ650
        obtain ⟨rfl, Nq650, K650, Ex650, g0_650, g1_650⟩ := hQ650
        obtain ⟨L650, X650, N650⟩ := own_absC (K := 20) (K' := 43030) X650 l650 y650 z650 N632 Nq650
        have F651 : n0 ≤ T650.heap.size := Nat.le_trans Z641 K650.1
        have F652 := Keep.trans K642 K650 (allS (Or.inr (Nat.le_trans F634.1 (Nat.le_of_eq ga640.symm))) all0)
        have F653 := Exa.keep F643 K650
        have F654 := Exa.keep F644 K650
        have F655 := Exa.keep F645 K650
        have F656 := Fld.keep F646 K650 (ninS (Ne.symm ne640_a625) nin0)
        have F657 := Fld.keep F647 K650 (ninS (Ne.symm ne640_a625) nin0)
        have F658 := Exa.keep A640 K650
        refine own_tr (B := (T650.setTop (mkF m 95 #[iv p0, iv p1, iv p2, rv a1, rv a26, iv (1 : Int32), iv (1 : Int32), iv (2 : Int32), iv p0, rv a625, .unset, .unset, .unset, .unset] [(.ref a640)]))) st650 ?_
        refine own_go (B := (T650.setTop (mkF m 97 #[iv p0, iv p1, iv p2, rv a1, rv a26, iv (1 : Int32), iv (1 : Int32), iv (2 : Int32), iv p0, rv a625, rv a640, .unset, .unset, .unset] []))) (fun t k => XS.astore X650.here hx rfl (hb hby at_95) rfl rfl (l' := #[iv p0, iv p1, iv p2, rv a1, rv a26, iv (1 : Int32), iv (1 : Int32), iv (2 : Int32), iv p0, rv a625, rv a640, .unset, .unset, .unset]) rfl k) ?_
        refine own_go (B := (T650.setTop (mkF m 99 #[iv p0, iv p1, iv p2, rv a1, rv a26, iv (1 : Int32), iv (1 : Int32), iv (2 : Int32), iv p0, rv a625, rv a640, .unset, .unset, .unset] [(.int (2 : Int32))]))) (fun t k => XS.iload X650.here hx rfl (hb hby at_97) rfl k) ?_
        have hc99 : ¬ (2 : Int32) = (0 : Int32) := (by decide)
        refine own_ifY X650 hx (hb hby at_99) (pc' := 109) (by decide) (by decide) hc99 ?_
        refine own_go (B := (T650.setTop (mkF m 111 #[iv p0, iv p1, iv p2, rv a1, rv a26, iv (1 : Int32), iv (1 : Int32), iv (2 : Int32), iv p0, rv a625, rv a640, .unset, .unset, .unset] [(.int (2 : Int32))]))) (fun t k => XS.iload X650.here hx rfl (hb hby at_109) rfl k) ?_
        refine own_go (B := (T650.setTop (mkF m 112 #[iv p0, iv p1, iv p2, rv a1, rv a26, iv (1 : Int32), iv (1 : Int32), iv (2 : Int32), iv p0, rv a625, rv a640, .unset, .unset, .unset] [(.int (1 : Int32)), (.int (2 : Int32))]))) (fun t k => own_iconst (v := (1 : Int32)) X650.here hx rfl (hb hby at_111) (by decide) k) ?_
        have hc112 : ¬ (2 : Int32) = (1 : Int32) := (by decide)
        refine own_icmpY X650 hx (hb hby at_112) (pc' := 121) (by decide) (by decide) hc112 ?_
        refine own_go (B := (T650.setTop (mkF m 123 #[iv p0, iv p1, iv p2, rv a1, rv a26, iv (1 : Int32), iv (1 : Int32), iv (2 : Int32), iv p0, rv a625, rv a640, .unset, .unset, .unset] [(.int (2 : Int32))]))) (fun t k => XS.iload X650.here hx rfl (hb hby at_121) rfl k) ?_
        refine own_go (B := (T650.setTop (mkF m 124 #[iv p0, iv p1, iv p2, rv a1, rv a26, iv (1 : Int32), iv (1 : Int32), iv (2 : Int32), iv p0, rv a625, rv a640, .unset, .unset, .unset] [(.int (2 : Int32)), (.int (2 : Int32))]))) (fun t k => own_iconst (v := (2 : Int32)) X650.here hx rfl (hb hby at_123) (by decide) k) ?_
        have hc124 : (2 : Int32) = (2 : Int32) := (by decide)
        refine own_icmpN X650 hx (hb hby at_124) (pn := 127) rfl hc124 ?_
        refine own_go (B := (T650.setTop (mkF m 128 #[iv p0, iv p1, iv p2, rv a1, rv a26, iv (1 : Int32), iv (1 : Int32), iv (2 : Int32), iv p0, rv a625, rv a640, .unset, .unset, .unset] [(.int p0)]))) (fun t k => XS.iloadN X650.here hx rfl (hb hby at_127) rfl k) ?_
        obtain ⟨_, _, ⟨T661, L661, k661, n661⟩, -, X661, ⟨Lc661, hQ661, l661, y661, z661⟩, st661⟩ := Jvm.LawKit.callS X650 hx (y := own_y8) hown (mvT hZ w_56) (mvT hZ w_57) (mvT hZ w_58) (mvT hZ w_59) (by decide) (backOf (W := 0) (own_vo l Z a0 hw [] p0 ca T650.heap n0 F651 (own_sta_keep hS1 F652 (fun _ q => nomatch q)) (own_sta_keep hS2 F652 (fun _ q => nomatch q)) (own_Cache_keep hC F652)) hZ w_59 w_58 (by decide) (by decide)) (g := (mkF m 128 #[iv p0, iv p1, iv p2, rv a1, rv a26, iv (1 : Int32), iv (1 : Int32), iv (2 : Int32), iv p0, rv a625, rv a640, .unset, .unset, .unset] [(.int p0)])) rfl (by rw [hml]; rfl) (argsL := [(.int p0)]) (rest := []) (lenOf own_pd6 rfl) rfl (by show 2 * 0 + _ ≤ _; exact own_b rfl) (hb hby at_128) (fun _ _ => ⟨rfl, rfl, (own_b rfl : 20 + 1 ≤ _), (own_b rfl : 43030 + 1 ≤ _)⟩)
        dsimp only [Pt.U, Pt.locs, Pt.cells, Pt.slots] at X661 l661 y661 z661 st661 hQ661
        obtain ⟨a661, rfl, Nq661, K661, Ex661, gv661⟩ := hQ661
        obtain ⟨L661, X661, N661⟩ := own_absC (K := 21) (K' := 43031) X661 l661 y661 z661 N650 Nq661
        have F662 : n0 ≤ T661.heap.size := Nat.le_trans F651 K661.1
        have F663 := Keep.trans F652 K661 all0
        have F664 := Exa.keep F653 K661
        have F665 := Exa.keep F654 K661
        have F666 := Exa.keep F655 K661
        have F667 := Fld.keep F656 K661 nin0
        have F668 := Fld.keep F657 K661 nin0
        have F669 := Exa.keep Ex650 K661
        have F670 := Fld.keep g0_650 K661 nin0
        have F671 := Fld.keep g1_650 K661 nin0
        refine own_go (B := (T661.setTop (mkF m 131 #[iv p0, iv p1, iv p2, rv a1, rv a26, iv (1 : Int32), iv (1 : Int32), iv (2 : Int32), iv p0, rv a625, rv a640, .unset, .unset, .unset] [(.ref a661)]))) st661 ?_
        refine own_go (B := (T661.setTop (mkF m 133 #[iv p0, iv p1, iv p2, rv a1, rv a26, iv (1 : Int32), iv (1 : Int32), iv (2 : Int32), iv p0, rv a625, rv a640, rv a661, .unset, .unset] []))) (fun t k => XS.astore X661.here hx rfl (hb hby at_131) rfl rfl (l' := #[iv p0, iv p1, iv p2, rv a1, rv a26, iv (1 : Int32), iv (1 : Int32), iv (2 : Int32), iv p0, rv a625, rv a640, rv a661, .unset, .unset]) rfl k) ?_
        refine own_go (B := (T661.setTop (mkF m 139 #[iv p0, iv p1, iv p2, rv a1, rv a26, iv (1 : Int32), iv (1 : Int32), iv (2 : Int32), iv p0, rv a625, rv a640, rv a661, .unset, .unset] []))) (fun t k => XS.goto X661.here hx rfl (pc0 := 133) (pc' := 139) rfl (hb hby at_133) (by decide) (by decide) k) ?_
        refine own_go (B := (T661.setTop (mkF m 141 #[iv p0, iv p1, iv p2, rv a1, rv a26, iv (1 : Int32), iv (1 : Int32), iv (2 : Int32), iv p0, rv a625, rv a640, rv a661, .unset, .unset] [(.int (2 : Int32))]))) (fun t k => XS.iload X661.here hx rfl (hb hby at_139) rfl k) ?_
        have hc141 : ¬ (2 : Int32) = (0 : Int32) := (by decide)
        refine own_ifY X661 hx (hb hby at_141) (pc' := 159) (by decide) (by decide) hc141 ?_
        refine own_go (B := (T661.setTop (mkF m 160 #[iv p0, iv p1, iv p2, rv a1, rv a26, iv (1 : Int32), iv (1 : Int32), iv (2 : Int32), iv p0, rv a625, rv a640, rv a661, .unset, .unset] [(.int (0 : Int32))]))) (fun t k => own_iconst (v := (0 : Int32)) X661.here hx rfl (hb hby at_159) (by decide) k) ?_
        refine own_go (B := (T661.setTop (mkF m 162 #[iv p0, iv p1, iv p2, rv a1, rv a26, iv (1 : Int32), iv (1 : Int32), iv (2 : Int32), iv p0, rv a625, rv a640, rv a661, iv (0 : Int32), .unset] []))) (fun t k => XS.istore X661.here hx rfl (hb hby at_160) rfl (l' := #[iv p0, iv p1, iv p2, rv a1, rv a26, iv (1 : Int32), iv (1 : Int32), iv (2 : Int32), iv p0, rv a625, rv a640, rv a661, iv (0 : Int32), .unset]) rfl k) ?_
        refine own_go (B := (T661.setTop (mkF m 164 #[iv p0, iv p1, iv p2, rv a1, rv a26, iv (1 : Int32), iv (1 : Int32), iv (2 : Int32), iv p0, rv a625, rv a640, rv a661, iv (0 : Int32), .unset] [(.ref a625)]))) (fun t k => XS.aload X661.here hx rfl (hb hby at_162) rfl rfl k) ?_
        refine own_go (B := (T661.setTop (mkF m 166 #[iv p0, iv p1, iv p2, rv a1, rv a26, iv (1 : Int32), iv (1 : Int32), iv (2 : Int32), iv p0, rv a625, rv a640, rv a661, iv (0 : Int32), .unset] [(.ref a661), (.ref a625)]))) (fun t k => XS.aload X661.here hx rfl (hb hby at_164) rfl rfl k) ?_
        obtain ⟨cq672, kq672, qa672, qb672, qc672⟩ := isOf hZ rfl F666
        obtain ⟨_, _, ⟨T672, L672, k672, n672⟩, -, X672, ⟨Lc672, hQ672, l672, y672, z672⟩, st672⟩ := X661.virtualBack hx (y := own_y7) (z := own_y7) hown (mvT hZ w_47) (mvT hZ w_48) (notFace_of_selects (args := #[]) (mvT hZ w_50)) (mvT hZ w_50) (mvT hZ w_49) (by decide) (backOf (W := 0) (own_eqint_ l Z a0 hw [] a625 a661 T661.heap n0 Ex661) hZ w_51 w_38 (by decide) (by decide)) qa672 qc672 (g := (mkF m 166 #[iv p0, iv p1, iv p2, rv a1, rv a26, iv (1 : Int32), iv (1 : Int32), iv (2 : Int32), iv p0, rv a625, rv a640, rv a661, iv (0 : Int32), .unset] [(.ref a661), (.ref a625)])) rfl (by rw [hml]; rfl) (Steps.refl _) (argsL := [(.ref a661)]) (rest := []) (lenOf own_pd5 rfl) rfl (by show 2 * 0 + _ ≤ _; exact own_b rfl) (hb hby at_166) (fun _ _ => ⟨rfl, rfl, (own_b rfl : 21 + 0 ≤ _), (own_b rfl : 43031 + 0 ≤ _)⟩)
        dsimp only [Pt.U, Pt.locs, Pt.cells, Pt.slots] at X672 l672 y672 z672 st672 hQ672
        obtain ⟨rfl, Nq672, eq672⟩ := hQ672
        obtain ⟨L672, X672, N672⟩ := own_absC (K := 21) (K' := 43031) X672 l672 y672 z672 N661 Nq672
        have e672 : T672.heap = T661.heap := eq672
        refine own_tr (B := (T672.setTop (mkF m 169 #[iv p0, iv p1, iv p2, rv a1, rv a26, iv (1 : Int32), iv (1 : Int32), iv (2 : Int32), iv p0, rv a625, rv a640, rv a661, iv (0 : Int32), .unset] [(.int (0 : Int32))]))) st672 ?_
        refine own_go (B := (T672.setTop (mkF m 171 #[iv p0, iv p1, iv p2, rv a1, rv a26, iv (1 : Int32), iv (1 : Int32), iv (2 : Int32), iv p0, rv a625, rv a640, rv a661, iv (0 : Int32), iv (0 : Int32)] []))) (fun t k => XS.istore X672.here hx rfl (hb hby at_169) rfl (l' := #[iv p0, iv p1, iv p2, rv a1, rv a26, iv (1 : Int32), iv (1 : Int32), iv (2 : Int32), iv p0, rv a625, rv a640, rv a661, iv (0 : Int32), iv (0 : Int32)]) rfl k) ?_
        refine own_go (B := (T672.setTop (mkF m 173 #[iv p0, iv p1, iv p2, rv a1, rv a26, iv (1 : Int32), iv (1 : Int32), iv (2 : Int32), iv p0, rv a625, rv a640, rv a661, iv (0 : Int32), iv (0 : Int32)] [(.int (0 : Int32))]))) (fun t k => XS.iload X672.here hx rfl (hb hby at_171) rfl k) ?_
        refine own_go (B := (T672.setTop (mkF m 175 #[iv p0, iv p1, iv p2, rv a1, rv a26, iv (1 : Int32), iv (1 : Int32), iv (2 : Int32), iv p0, rv a625, rv a640, rv a661, iv (0 : Int32), iv (0 : Int32)] [(.int (0 : Int32)), (.int (0 : Int32))]))) (fun t k => XS.iload X672.here hx rfl (hb hby at_173) rfl k) ?_
        have hc175 : (0 : Int32) = (0 : Int32) := (by decide)
        refine own_icmpY X672 hx (hb hby at_175) (pc' := 180) (by decide) (by decide) hc175 ?_
        refine own_go (B := (T672.setTop (mkF m 182 #[iv p0, iv p1, iv p2, rv a1, rv a26, iv (1 : Int32), iv (1 : Int32), iv (2 : Int32), iv p0, rv a625, rv a640, rv a661, iv (0 : Int32), iv (0 : Int32)] [(.ref a625)]))) (fun t k => XS.aload X672.here hx rfl (hb hby at_180) rfl rfl k) ?_
        refine own_go (B := (T672.setTop (mkF m 184 #[iv p0, iv p1, iv p2, rv a1, rv a26, iv (1 : Int32), iv (1 : Int32), iv (2 : Int32), iv p0, rv a625, rv a640, rv a661, iv (0 : Int32), iv (0 : Int32)] [(.ref a625), (.ref a625)]))) (fun t k => XS.aload X672.here hx rfl (hb hby at_182) rfl rfl k) ?_
        obtain ⟨cq673, kq673, qa673, qb673, qc673⟩ := isOf hZ e672 F666
        obtain ⟨_, _, ⟨T673, L673, k673, n673⟩, -, X673, ⟨Lc673, hQ673, l673, y673, z673⟩, st673⟩ := X672.virtualBack hx (y := own_y7) (z := own_y7) hown (mvT hZ w_47) (mvT hZ w_48) (notFace_of_selects (args := #[]) (mvT hZ w_50)) (mvT hZ w_50) (mvT hZ w_49) (by decide) (backOf (W := 0) (own_eqT l Z a0 hw [] a625 a625 a1 p0 p0 T661.heap n0 F666 F667 F667 F668 F668 rfl) hZ w_51 w_38 (by decide) (by decide)) qa673 qc673 (g := (mkF m 184 #[iv p0, iv p1, iv p2, rv a1, rv a26, iv (1 : Int32), iv (1 : Int32), iv (2 : Int32), iv p0, rv a625, rv a640, rv a661, iv (0 : Int32), iv (0 : Int32)] [(.ref a625), (.ref a625)])) rfl (by rw [hml]; rfl) (Steps.refl _) (argsL := [(.ref a625)]) (rest := []) (lenOf own_pd5 rfl) rfl (by show 2 * 0 + _ ≤ _; exact own_b rfl) (hb hby at_184) (fun _ _ => ⟨rfl, e672, (own_b rfl : 21 + 0 ≤ _), (own_b rfl : 43031 + 0 ≤ _)⟩)
        dsimp only [Pt.U, Pt.locs, Pt.cells, Pt.slots] at X673 l673 y673 z673 st673 hQ673
        obtain ⟨rfl, Nq673, eq673⟩ := hQ673
        obtain ⟨L673, X673, N673⟩ := own_absC (K := 21) (K' := 43031) X673 l673 y673 z673 N672 Nq673
        have e673 : T673.heap = T661.heap := eq673
        refine own_tr (B := (T673.setTop (mkF m 187 #[iv p0, iv p1, iv p2, rv a1, rv a26, iv (1 : Int32), iv (1 : Int32), iv (2 : Int32), iv p0, rv a625, rv a640, rv a661, iv (0 : Int32), iv (0 : Int32)] [(.int (1 : Int32))]))) st673 ?_
        have hc187 : ¬ (1 : Int32) = (0 : Int32) := (by decide)
        refine own_ifY X673 hx (hb hby at_187) (pc' := 192) (by decide) (by decide) hc187 ?_
        refine own_go (B := (T673.setTop (mkF m 194 #[iv p0, iv p1, iv p2, rv a1, rv a26, iv (1 : Int32), iv (1 : Int32), iv (2 : Int32), iv p0, rv a625, rv a640, rv a661, iv (0 : Int32), iv (0 : Int32)] [(.int (2 : Int32))]))) (fun t k => XS.iload X673.here hx rfl (hb hby at_192) rfl k) ?_
        have hc194 : ¬ (2 : Int32) = (0 : Int32) := (by decide)
        refine own_ifY X673 hx (hb hby at_194) (pc' := 211) (by decide) (by decide) hc194 ?_
        refine own_go (B := (T673.setTop (mkF m 212 #[iv p0, iv p1, iv p2, rv a1, rv a26, iv (1 : Int32), iv (1 : Int32), iv (2 : Int32), iv p0, rv a625, rv a640, rv a661, iv (0 : Int32), iv (0 : Int32)] [(.int (1 : Int32))]))) (fun t k => own_iconst (v := (1 : Int32)) X673.here hx rfl (hb hby at_211) (by decide) k) ?_
        exact own_retZ X673 hx hlk Bd.returns (hb hby at_212) (by decide) (own_b rfl) (own_b rfl) (Q := (own_law_Q Z p0 p1 p2 ca h0 n0)) ⟨rfl, N673⟩
      · refine own_go (B := (T39.setTop (mkF m 54 #[iv p0, iv p1, iv p2, rv a1, rv a26, iv (1 : Int32), iv (1 : Int32), iv (3 : Int32), .unset, .unset, .unset, .unset, .unset, .unset] [(.int (1 : Int32))]))) (fun t k => XS.iload X39.here hx rfl (hb hby at_52) rfl k) ?_
        have hc54 : ¬ (1 : Int32) = (0 : Int32) := (by decide)
        refine own_ifN X39 hx (hb hby at_54) (pn := 57) rfl hc54 ?_
        refine own_go (B := (T39.setTop (mkF m 58 #[iv p0, iv p1, iv p2, rv a1, rv a26, iv (1 : Int32), iv (1 : Int32), iv (3 : Int32), .unset, .unset, .unset, .unset, .unset, .unset] [(.int p0)]))) (fun t k => XS.iloadN X39.here hx rfl (hb hby at_57) rfl k) ?_
        refine own_go (B := (T39.setTop (mkF m 62 #[iv p0, iv p1, iv p2, rv a1, rv a26, iv (1 : Int32), iv (1 : Int32), iv (3 : Int32), .unset, .unset, .unset, .unset, .unset, .unset] [(.int p0)]))) (fun t k => XS.goto X39.here hx rfl (pc0 := 58) (pc' := 62) rfl (hb hby at_58) (by decide) (by decide) k) ?_
        refine own_go (B := (T39.setTop (mkF m 64 #[iv p0, iv p1, iv p2, rv a1, rv a26, iv (1 : Int32), iv (1 : Int32), iv (3 : Int32), iv p0, .unset, .unset, .unset, .unset, .unset] []))) (fun t k => XS.istore X39.here hx rfl (hb hby at_62) rfl (l' := #[iv p0, iv p1, iv p2, rv a1, rv a26, iv (1 : Int32), iv (1 : Int32), iv (3 : Int32), iv p0, .unset, .unset, .unset, .unset, .unset]) rfl k) ?_
        obtain ⟨T674, h674, X674, e674, E674, A674, D674, U674, st674⟩ := newO X39 hx hZ hown w_36 w_37 w_38 rfl (g := (mkF m 64 #[iv p0, iv p1, iv p2, rv a1, rv a26, iv (1 : Int32), iv (1 : Int32), iv (3 : Int32), iv p0, .unset, .unset, .unset, .unset, .unset] [])) rfl (hb hby at_64) (own_b rfl) (own_b rfl)
        obtain ⟨a674, ga674⟩ : ∃ z, z = T39.heap.size := ⟨_, rfl⟩
        rw [← ga674] at A674 D674 U674 st674
        refine own_go (B := (T674.setTop (mkF m 67 #[iv p0, iv p1, iv p2, rv a1, rv a26, iv (1 : Int32), iv (1 : Int32), iv (3 : Int32), iv p0, .unset, .unset, .unset, .unset, .unset] [(.ref a674)]))) st674 ?_
        have Z675 : n0 ≤ h674.size := Nat.le_trans F40 E674.1
        have K676 := Keep.ext F41 E674
        have F677 := Exa.ext E674 F42
        have F678 := Exa.ext E674 Ex39
        have gn674 : n0 ≤ a674 := Nat.le_trans F40 (Nat.le_of_eq ga674.symm)
        have ne674_a1 : a674 ≠ a1 := fun q => absurd (F42.lt) (by rw [← q, ga674]; exact Nat.lt_irrefl _)
        have ne674_a26 : a674 ≠ a26 := fun q => absurd (Ex39.lt) (by rw [← q, ga674]; exact Nat.lt_irrefl _)
        have F679 : Fld Z h674 a674 "com/example/parts_to_policy/partstopolicy/policy/PacketSet" "bdd" "Lcom/example/parts_to_policy/partstopolicy/policy/Bdd;" .null := D674 (Or.inr w_44) (ty := (.object "com/example/parts_to_policy/partstopolicy/policy/Bdd")) (by decide)
        have F680 : Fld Z h674 a674 "com/example/parts_to_policy/partstopolicy/policy/PacketSet" "node" "I" (.int (0 : Int32)) := D674 (Or.inr w_46) (ty := .int) (by decide)
        refine own_go (B := (T674.setTop (mkF m 68 #[iv p0, iv p1, iv p2, rv a1, rv a26, iv (1 : Int32), iv (1 : Int32), iv (3 : Int32), iv p0, .unset, .unset, .unset, .unset, .unset] [(.ref a674), (.ref a674)]))) (fun t k => XS.dup X674.here hx rfl (hb hby at_67) rfl rfl k) ?_
        refine own_go (B := (T674.setTop (mkF m 69 #[iv p0, iv p1, iv p2, rv a1, rv a26, iv (1 : Int32), iv (1 : Int32), iv (3 : Int32), iv p0, .unset, .unset, .unset, .unset, .unset] [(.ref a1), (.ref a674), (.ref a674)]))) (fun t k => XS.aloadN X674.here hx rfl (hb hby at_68) rfl rfl k) ?_
        refine own_go (B := (T674.setTop (mkF m 70 #[iv p0, iv p1, iv p2, rv a1, rv a26, iv (1 : Int32), iv (1 : Int32), iv (3 : Int32), iv p0, .unset, .unset, .unset, .unset, .unset] [(.int p0), (.ref a1), (.ref a674), (.ref a674)]))) (fun t k => XS.iloadN X674.here hx rfl (hb hby at_69) rfl k) ?_
        obtain ⟨_, _, ⟨T681, L681, k681, n681⟩, -, X681, ⟨Lc681, hQ681, l681, y681, z681⟩, st681⟩ := X674.specialBack hx (y := own_y6) rfl hown (mvT hZ w_39) (mvT hZ w_40) (mvT hZ w_41) (by decide) (backOf (W := 1) (own_pct l Z a0 hw [] a674 a1 p0 h674 n0 Z675 A674 gn674 F679 F680) hZ w_41 w_38 (by decide) (by decide)) (g := (mkF m 70 #[iv p0, iv p1, iv p2, rv a1, rv a26, iv (1 : Int32), iv (1 : Int32), iv (3 : Int32), iv p0, .unset, .unset, .unset, .unset, .unset] [(.int p0), (.ref a1), (.ref a674), (.ref a674)])) rfl (by rw [hml]; rfl) (Steps.refl _) (a := a674) (argsL := [(.ref a1), (.int p0)]) (rest := [(.ref a674)]) (lenOf own_pd4 rfl) rfl (by show 2 * 0 + _ ≤ _; exact own_b rfl) (hb hby at_70) (fun _ _ => ⟨rfl, e674, (own_b rfl : 19 + 0 ≤ _), (own_b rfl : 43028 + 0 ≤ _)⟩)
        dsimp only [Pt.U, Pt.locs, Pt.cells, Pt.slots] at X681 l681 y681 z681 st681 hQ681
        obtain ⟨rfl, Nq681, K681, Ex681, g0_681, g1_681⟩ := hQ681
        obtain ⟨L681, X681, N681⟩ := own_absC (K := 19) (K' := 43028) X681 l681 y681 z681 N39 Nq681
        have F682 : n0 ≤ T681.heap.size := Nat.le_trans Z675 K681.1
        have F683 := Keep.trans K676 K681 (allS (Or.inr (Nat.le_trans F41.1 (Nat.le_of_eq ga674.symm))) all0)
        have F684 := Exa.keep F677 K681
        have F685 := Exa.keep F678 K681
        have F686 := Exa.keep A674 K681
        refine own_tr (B := (T681.setTop (mkF m 73 #[iv p0, iv p1, iv p2, rv a1, rv a26, iv (1 : Int32), iv (1 : Int32), iv (3 : Int32), iv p0, .unset, .unset, .unset, .unset, .unset] [(.ref a674)]))) st681 ?_
        refine own_go (B := (T681.setTop (mkF m 75 #[iv p0, iv p1, iv p2, rv a1, rv a26, iv (1 : Int32), iv (1 : Int32), iv (3 : Int32), iv p0, rv a674, .unset, .unset, .unset, .unset] []))) (fun t k => XS.astore X681.here hx rfl (hb hby at_73) rfl rfl (l' := #[iv p0, iv p1, iv p2, rv a1, rv a26, iv (1 : Int32), iv (1 : Int32), iv (3 : Int32), iv p0, rv a674, .unset, .unset, .unset, .unset]) rfl k) ?_
        obtain ⟨T689, h689, X689, e689, E689, A689, D689, U689, st689⟩ := newO X681 hx hZ hown w_36 w_37 w_38 rfl (g := (mkF m 75 #[iv p0, iv p1, iv p2, rv a1, rv a26, iv (1 : Int32), iv (1 : Int32), iv (3 : Int32), iv p0, rv a674, .unset, .unset, .unset, .unset] [])) rfl (hb hby at_75) (own_b rfl) (own_b rfl)
        obtain ⟨a689, ga689⟩ : ∃ z, z = T681.heap.size := ⟨_, rfl⟩
        rw [← ga689] at A689 D689 U689 st689
        refine own_go (B := (T689.setTop (mkF m 78 #[iv p0, iv p1, iv p2, rv a1, rv a26, iv (1 : Int32), iv (1 : Int32), iv (3 : Int32), iv p0, rv a674, .unset, .unset, .unset, .unset] [(.ref a689)]))) st689 ?_
        have Z690 : n0 ≤ h689.size := Nat.le_trans F682 E689.1
        have K691 := Keep.ext F683 E689
        have F692 := Exa.ext E689 F684
        have F693 := Exa.ext E689 F685
        have F694 := Exa.ext E689 Ex681
        have F695 := Fld.ext E689 g0_681
        have F696 := Fld.ext E689 g1_681
        have gn689 : n0 ≤ a689 := Nat.le_trans F682 (Nat.le_of_eq ga689.symm)
        have ne689_a1 : a689 ≠ a1 := fun q => absurd (F684.lt) (by rw [← q, ga689]; exact Nat.lt_irrefl _)
        have ne689_a26 : a689 ≠ a26 := fun q => absurd (F685.lt) (by rw [← q, ga689]; exact Nat.lt_irrefl _)
        have ne689_a674 : a689 ≠ a674 := fun q => absurd (Ex681.lt) (by rw [← q, ga689]; exact Nat.lt_irrefl _)
        have F697 : Fld Z h689 a689 "com/example/parts_to_policy/partstopolicy/policy/PacketSet" "bdd" "Lcom/example/parts_to_policy/partstopolicy/policy/Bdd;" .null := D689 (Or.inr w_44) (ty := (.object "com/example/parts_to_policy/partstopolicy/policy/Bdd")) (by decide)
        have F698 : Fld Z h689 a689 "com/example/parts_to_policy/partstopolicy/policy/PacketSet" "node" "I" (.int (0 : Int32)) := D689 (Or.inr w_46) (ty := .int) (by decide)
        refine own_go (B := (T689.setTop (mkF m 79 #[iv p0, iv p1, iv p2, rv a1, rv a26, iv (1 : Int32), iv (1 : Int32), iv (3 : Int32), iv p0, rv a674, .unset, .unset, .unset, .unset] [(.ref a689), (.ref a689)]))) (fun t k => XS.dup X689.here hx rfl (hb hby at_78) rfl rfl k) ?_
        refine own_go (B := (T689.setTop (mkF m 81 #[iv p0, iv p1, iv p2, rv a1, rv a26, iv (1 : Int32), iv (1 : Int32), iv (3 : Int32), iv p0, rv a674, .unset, .unset, .unset, .unset] [(.int (1 : Int32)), (.ref a689), (.ref a689)]))) (fun t k => XS.iload X689.here hx rfl (hb hby at_79) rfl k) ?_
        have hc81 : ¬ (1 : Int32) = (0 : Int32) := (by decide)
        refine own_ifN X689 hx (hb hby at_81) (pn := 84) rfl hc81 ?_
        refine own_go (B := (T689.setTop (mkF m 85 #[iv p0, iv p1, iv p2, rv a1, rv a26, iv (1 : Int32), iv (1 : Int32), iv (3 : Int32), iv p0, rv a674, .unset, .unset, .unset, .unset] [(.ref a1), (.ref a689), (.ref a689)]))) (fun t k => XS.aloadN X689.here hx rfl (hb hby at_84) rfl rfl k) ?_
        refine own_go (B := (T689.setTop (mkF m 90 #[iv p0, iv p1, iv p2, rv a1, rv a26, iv (1 : Int32), iv (1 : Int32), iv (3 : Int32), iv p0, rv a674, .unset, .unset, .unset, .unset] [(.ref a1), (.ref a689), (.ref a689)]))) (fun t k => XS.goto X689.here hx rfl (pc0 := 85) (pc' := 90) rfl (hb hby at_85) (by decide) (by decide) k) ?_
        refine own_go (B := (T689.setTop (mkF m 92 #[iv p0, iv p1, iv p2, rv a1, rv a26, iv (1 : Int32), iv (1 : Int32), iv (3 : Int32), iv p0, rv a674, .unset, .unset, .unset, .unset] [(.int p0), (.ref a1), (.ref a689), (.ref a689)]))) (fun t k => XS.iload X689.here hx rfl (hb hby at_90) rfl k) ?_
        obtain ⟨_, _, ⟨T699, L699, k699, n699⟩, -, X699, ⟨Lc699, hQ699, l699, y699, z699⟩, st699⟩ := X689.specialBack hx (y := own_y6) rfl hown (mvT hZ w_39) (mvT hZ w_40) (mvT hZ w_41) (by decide) (backOf (W := 1) (own_pct l Z a0 hw [] a689 a1 p0 h689 n0 Z690 A689 gn689 F697 F698) hZ w_41 w_38 (by decide) (by decide)) (g := (mkF m 92 #[iv p0, iv p1, iv p2, rv a1, rv a26, iv (1 : Int32), iv (1 : Int32), iv (3 : Int32), iv p0, rv a674, .unset, .unset, .unset, .unset] [(.int p0), (.ref a1), (.ref a689), (.ref a689)])) rfl (by rw [hml]; rfl) (Steps.refl _) (a := a689) (argsL := [(.ref a1), (.int p0)]) (rest := [(.ref a689)]) (lenOf own_pd4 rfl) rfl (by show 2 * 0 + _ ≤ _; exact own_b rfl) (hb hby at_92) (fun _ _ => ⟨rfl, e689, (own_b rfl : 20 + 0 ≤ _), (own_b rfl : 43030 + 0 ≤ _)⟩)
        dsimp only [Pt.U, Pt.locs, Pt.cells, Pt.slots] at X699 l699 y699 z699 st699 hQ699
        obtain ⟨rfl, Nq699, K699, Ex699, g0_699, g1_699⟩ := hQ699
        obtain ⟨L699, X699, N699⟩ := own_absC (K := 20) (K' := 43030) X699 l699 y699 z699 N681 Nq699
        have F700 : n0 ≤ T699.heap.size := Nat.le_trans Z690 K699.1
        have F701 := Keep.trans K691 K699 (allS (Or.inr (Nat.le_trans F683.1 (Nat.le_of_eq ga689.symm))) all0)
        have F702 := Exa.keep F692 K699
        have F703 := Exa.keep F693 K699
        have F704 := Exa.keep F694 K699
        have F705 := Fld.keep F695 K699 (ninS (Ne.symm ne689_a674) nin0)
        have F706 := Fld.keep F696 K699 (ninS (Ne.symm ne689_a674) nin0)
        have F707 := Exa.keep A689 K699
        refine own_tr (B := (T699.setTop (mkF m 95 #[iv p0, iv p1, iv p2, rv a1, rv a26, iv (1 : Int32), iv (1 : Int32), iv (3 : Int32), iv p0, rv a674, .unset, .unset, .unset, .unset] [(.ref a689)]))) st699 ?_
        refine own_go (B := (T699.setTop (mkF m 97 #[iv p0, iv p1, iv p2, rv a1, rv a26, iv (1 : Int32), iv (1 : Int32), iv (3 : Int32), iv p0, rv a674, rv a689, .unset, .unset, .unset] []))) (fun t k => XS.astore X699.here hx rfl (hb hby at_95) rfl rfl (l' := #[iv p0, iv p1, iv p2, rv a1, rv a26, iv (1 : Int32), iv (1 : Int32), iv (3 : Int32), iv p0, rv a674, rv a689, .unset, .unset, .unset]) rfl k) ?_
        refine own_go (B := (T699.setTop (mkF m 99 #[iv p0, iv p1, iv p2, rv a1, rv a26, iv (1 : Int32), iv (1 : Int32), iv (3 : Int32), iv p0, rv a674, rv a689, .unset, .unset, .unset] [(.int (3 : Int32))]))) (fun t k => XS.iload X699.here hx rfl (hb hby at_97) rfl k) ?_
        have hc99 : ¬ (3 : Int32) = (0 : Int32) := (by decide)
        refine own_ifY X699 hx (hb hby at_99) (pc' := 109) (by decide) (by decide) hc99 ?_
        refine own_go (B := (T699.setTop (mkF m 111 #[iv p0, iv p1, iv p2, rv a1, rv a26, iv (1 : Int32), iv (1 : Int32), iv (3 : Int32), iv p0, rv a674, rv a689, .unset, .unset, .unset] [(.int (3 : Int32))]))) (fun t k => XS.iload X699.here hx rfl (hb hby at_109) rfl k) ?_
        refine own_go (B := (T699.setTop (mkF m 112 #[iv p0, iv p1, iv p2, rv a1, rv a26, iv (1 : Int32), iv (1 : Int32), iv (3 : Int32), iv p0, rv a674, rv a689, .unset, .unset, .unset] [(.int (1 : Int32)), (.int (3 : Int32))]))) (fun t k => own_iconst (v := (1 : Int32)) X699.here hx rfl (hb hby at_111) (by decide) k) ?_
        have hc112 : ¬ (3 : Int32) = (1 : Int32) := (by decide)
        refine own_icmpY X699 hx (hb hby at_112) (pc' := 121) (by decide) (by decide) hc112 ?_
        refine own_go (B := (T699.setTop (mkF m 123 #[iv p0, iv p1, iv p2, rv a1, rv a26, iv (1 : Int32), iv (1 : Int32), iv (3 : Int32), iv p0, rv a674, rv a689, .unset, .unset, .unset] [(.int (3 : Int32))]))) (fun t k => XS.iload X699.here hx rfl (hb hby at_121) rfl k) ?_
        refine own_go (B := (T699.setTop (mkF m 124 #[iv p0, iv p1, iv p2, rv a1, rv a26, iv (1 : Int32), iv (1 : Int32), iv (3 : Int32), iv p0, rv a674, rv a689, .unset, .unset, .unset] [(.int (2 : Int32)), (.int (3 : Int32))]))) (fun t k => own_iconst (v := (2 : Int32)) X699.here hx rfl (hb hby at_123) (by decide) k) ?_
        have hc124 : ¬ (3 : Int32) = (2 : Int32) := (by decide)
        refine own_icmpY X699 hx (hb hby at_124) (pc' := 136) (by decide) (by decide) hc124 ?_
        refine own_go (B := (T699.setTop (mkF m 137 #[iv p0, iv p1, iv p2, rv a1, rv a26, iv (1 : Int32), iv (1 : Int32), iv (3 : Int32), iv p0, rv a674, rv a689, .unset, .unset, .unset] [(.ref a1)]))) (fun t k => XS.aloadN X699.here hx rfl (hb hby at_136) rfl rfl k) ?_
        refine own_go (B := (T699.setTop (mkF m 139 #[iv p0, iv p1, iv p2, rv a1, rv a26, iv (1 : Int32), iv (1 : Int32), iv (3 : Int32), iv p0, rv a674, rv a689, rv a1, .unset, .unset] []))) (fun t k => XS.astore X699.here hx rfl (hb hby at_137) rfl rfl (l' := #[iv p0, iv p1, iv p2, rv a1, rv a26, iv (1 : Int32), iv (1 : Int32), iv (3 : Int32), iv p0, rv a674, rv a689, rv a1, .unset, .unset]) rfl k) ?_
        refine own_go (B := (T699.setTop (mkF m 141 #[iv p0, iv p1, iv p2, rv a1, rv a26, iv (1 : Int32), iv (1 : Int32), iv (3 : Int32), iv p0, rv a674, rv a689, rv a1, .unset, .unset] [(.int (3 : Int32))]))) (fun t k => XS.iload X699.here hx rfl (hb hby at_139) rfl k) ?_
        have hc141 : ¬ (3 : Int32) = (0 : Int32) := (by decide)
        refine own_ifY X699 hx (hb hby at_141) (pc' := 159) (by decide) (by decide) hc141 ?_
        refine own_go (B := (T699.setTop (mkF m 160 #[iv p0, iv p1, iv p2, rv a1, rv a26, iv (1 : Int32), iv (1 : Int32), iv (3 : Int32), iv p0, rv a674, rv a689, rv a1, .unset, .unset] [(.int (0 : Int32))]))) (fun t k => own_iconst (v := (0 : Int32)) X699.here hx rfl (hb hby at_159) (by decide) k) ?_
        refine own_go (B := (T699.setTop (mkF m 162 #[iv p0, iv p1, iv p2, rv a1, rv a26, iv (1 : Int32), iv (1 : Int32), iv (3 : Int32), iv p0, rv a674, rv a689, rv a1, iv (0 : Int32), .unset] []))) (fun t k => XS.istore X699.here hx rfl (hb hby at_160) rfl (l' := #[iv p0, iv p1, iv p2, rv a1, rv a26, iv (1 : Int32), iv (1 : Int32), iv (3 : Int32), iv p0, rv a674, rv a689, rv a1, iv (0 : Int32), .unset]) rfl k) ?_
        refine own_go (B := (T699.setTop (mkF m 164 #[iv p0, iv p1, iv p2, rv a1, rv a26, iv (1 : Int32), iv (1 : Int32), iv (3 : Int32), iv p0, rv a674, rv a689, rv a1, iv (0 : Int32), .unset] [(.ref a674)]))) (fun t k => XS.aload X699.here hx rfl (hb hby at_162) rfl rfl k) ?_
        refine own_go (B := (T699.setTop (mkF m 166 #[iv p0, iv p1, iv p2, rv a1, rv a26, iv (1 : Int32), iv (1 : Int32), iv (3 : Int32), iv p0, rv a674, rv a689, rv a1, iv (0 : Int32), .unset] [(.ref a1), (.ref a674)]))) (fun t k => XS.aload X699.here hx rfl (hb hby at_164) rfl rfl k) ?_
        obtain ⟨cq710, kq710, qa710, qb710, qc710⟩ := isOf hZ rfl F704
        obtain ⟨_, _, ⟨T710, L710, k710, n710⟩, -, X710, ⟨Lc710, hQ710, l710, y710, z710⟩, st710⟩ := X699.virtualBack hx (y := own_y7) (z := own_y7) hown (mvT hZ w_47) (mvT hZ w_48) (notFace_of_selects (args := #[]) (mvT hZ w_50)) (mvT hZ w_50) (mvT hZ w_49) (by decide) (backOf (W := 0) (own_eqbdd l Z a0 hw [] a674 a1 T699.heap n0 F702) hZ w_51 w_38 (by decide) (by decide)) qa710 qc710 (g := (mkF m 166 #[iv p0, iv p1, iv p2, rv a1, rv a26, iv (1 : Int32), iv (1 : Int32), iv (3 : Int32), iv p0, rv a674, rv a689, rv a1, iv (0 : Int32), .unset] [(.ref a1), (.ref a674)])) rfl (by rw [hml]; rfl) (Steps.refl _) (argsL := [(.ref a1)]) (rest := []) (lenOf own_pd5 rfl) rfl (by show 2 * 0 + _ ≤ _; exact own_b rfl) (hb hby at_166) (fun _ _ => ⟨rfl, rfl, (own_b rfl : 20 + 0 ≤ _), (own_b rfl : 43030 + 0 ≤ _)⟩)
        dsimp only [Pt.U, Pt.locs, Pt.cells, Pt.slots] at X710 l710 y710 z710 st710 hQ710
        obtain ⟨rfl, Nq710, eq710⟩ := hQ710
        obtain ⟨L710, X710, N710⟩ := own_absC (K := 20) (K' := 43030) X710 l710 y710 z710 N699 Nq710
        have e710 : T710.heap = T699.heap := eq710
        refine own_tr (B := (T710.setTop (mkF m 169 #[iv p0, iv p1, iv p2, rv a1, rv a26, iv (1 : Int32), iv (1 : Int32), iv (3 : Int32), iv p0, rv a674, rv a689, rv a1, iv (0 : Int32), .unset] [(.int (0 : Int32))]))) st710 ?_
        refine own_go (B := (T710.setTop (mkF m 171 #[iv p0, iv p1, iv p2, rv a1, rv a26, iv (1 : Int32), iv (1 : Int32), iv (3 : Int32), iv p0, rv a674, rv a689, rv a1, iv (0 : Int32), iv (0 : Int32)] []))) (fun t k => XS.istore X710.here hx rfl (hb hby at_169) rfl (l' := #[iv p0, iv p1, iv p2, rv a1, rv a26, iv (1 : Int32), iv (1 : Int32), iv (3 : Int32), iv p0, rv a674, rv a689, rv a1, iv (0 : Int32), iv (0 : Int32)]) rfl k) ?_
        refine own_go (B := (T710.setTop (mkF m 173 #[iv p0, iv p1, iv p2, rv a1, rv a26, iv (1 : Int32), iv (1 : Int32), iv (3 : Int32), iv p0, rv a674, rv a689, rv a1, iv (0 : Int32), iv (0 : Int32)] [(.int (0 : Int32))]))) (fun t k => XS.iload X710.here hx rfl (hb hby at_171) rfl k) ?_
        refine own_go (B := (T710.setTop (mkF m 175 #[iv p0, iv p1, iv p2, rv a1, rv a26, iv (1 : Int32), iv (1 : Int32), iv (3 : Int32), iv p0, rv a674, rv a689, rv a1, iv (0 : Int32), iv (0 : Int32)] [(.int (0 : Int32)), (.int (0 : Int32))]))) (fun t k => XS.iload X710.here hx rfl (hb hby at_173) rfl k) ?_
        have hc175 : (0 : Int32) = (0 : Int32) := (by decide)
        refine own_icmpY X710 hx (hb hby at_175) (pc' := 180) (by decide) (by decide) hc175 ?_
        refine own_go (B := (T710.setTop (mkF m 182 #[iv p0, iv p1, iv p2, rv a1, rv a26, iv (1 : Int32), iv (1 : Int32), iv (3 : Int32), iv p0, rv a674, rv a689, rv a1, iv (0 : Int32), iv (0 : Int32)] [(.ref a674)]))) (fun t k => XS.aload X710.here hx rfl (hb hby at_180) rfl rfl k) ?_
        refine own_go (B := (T710.setTop (mkF m 184 #[iv p0, iv p1, iv p2, rv a1, rv a26, iv (1 : Int32), iv (1 : Int32), iv (3 : Int32), iv p0, rv a674, rv a689, rv a1, iv (0 : Int32), iv (0 : Int32)] [(.ref a674), (.ref a674)]))) (fun t k => XS.aload X710.here hx rfl (hb hby at_182) rfl rfl k) ?_
        obtain ⟨cq711, kq711, qa711, qb711, qc711⟩ := isOf hZ e710 F704
        obtain ⟨_, _, ⟨T711, L711, k711, n711⟩, -, X711, ⟨Lc711, hQ711, l711, y711, z711⟩, st711⟩ := X710.virtualBack hx (y := own_y7) (z := own_y7) hown (mvT hZ w_47) (mvT hZ w_48) (notFace_of_selects (args := #[]) (mvT hZ w_50)) (mvT hZ w_50) (mvT hZ w_49) (by decide) (backOf (W := 0) (own_eqT l Z a0 hw [] a674 a674 a1 p0 p0 T699.heap n0 F704 F705 F705 F706 F706 rfl) hZ w_51 w_38 (by decide) (by decide)) qa711 qc711 (g := (mkF m 184 #[iv p0, iv p1, iv p2, rv a1, rv a26, iv (1 : Int32), iv (1 : Int32), iv (3 : Int32), iv p0, rv a674, rv a689, rv a1, iv (0 : Int32), iv (0 : Int32)] [(.ref a674), (.ref a674)])) rfl (by rw [hml]; rfl) (Steps.refl _) (argsL := [(.ref a674)]) (rest := []) (lenOf own_pd5 rfl) rfl (by show 2 * 0 + _ ≤ _; exact own_b rfl) (hb hby at_184) (fun _ _ => ⟨rfl, e710, (own_b rfl : 20 + 0 ≤ _), (own_b rfl : 43030 + 0 ≤ _)⟩)
        dsimp only [Pt.U, Pt.locs, Pt.cells, Pt.slots] at X711 l711 y711 z711 st711 hQ711
        obtain ⟨rfl, Nq711, eq711⟩ := hQ711
        obtain ⟨L711, X711, N711⟩ := own_absC (K := 20) (K' := 43030) X711 l711 y711 z711 N710 Nq711
        have e711 : T711.heap = T699.heap := eq711
        refine own_tr (B := (T711.setTop (mkF m 187 #[iv p0, iv p1, iv p2, rv a1, rv a26, iv (1 : Int32), iv (1 : Int32), iv (3 : Int32), iv p0, rv a674, rv a689, rv a1, iv (0 : Int32), iv (0 : Int32)] [(.int (1 : Int32))]))) st711 ?_
        have hc187 : ¬ (1 : Int32) = (0 : Int32) := (by decide)
        refine own_ifY X711 hx (hb hby at_187) (pc' := 192) (by decide) (by decide) hc187 ?_
        refine own_go (B := (T711.setTop (mkF m 194 #[iv p0, iv p1, iv p2, rv a1, rv a26, iv (1 : Int32), iv (1 : Int32), iv (3 : Int32), iv p0, rv a674, rv a689, rv a1, iv (0 : Int32), iv (0 : Int32)] [(.int (3 : Int32))]))) (fun t k => XS.iload X711.here hx rfl (hb hby at_192) rfl k) ?_
        have hc194 : ¬ (3 : Int32) = (0 : Int32) := (by decide)
        refine own_ifY X711 hx (hb hby at_194) (pc' := 211) (by decide) (by decide) hc194 ?_
        refine own_go (B := (T711.setTop (mkF m 212 #[iv p0, iv p1, iv p2, rv a1, rv a26, iv (1 : Int32), iv (1 : Int32), iv (3 : Int32), iv p0, rv a674, rv a689, rv a1, iv (0 : Int32), iv (0 : Int32)] [(.int (1 : Int32))]))) (fun t k => own_iconst (v := (1 : Int32)) X711.here hx rfl (hb hby at_211) (by decide) k) ?_
        exact own_retZ X711 hx hlk Bd.returns (hb hby at_212) (by decide) (own_b rfl) (own_b rfl) (Q := (own_law_Q Z p0 p1 p2 ca h0 n0)) ⟨rfl, N711⟩

set_option maxRecDepth 65536 in
set_option maxHeartbeats 40000000 in
theorem own_comes {Post : Tables → Env → Array Value → State → Outcome → State → Prop} (hpost : ∀ tb e args s v u, (limb_1_1.after args s (.returned v) u = true ∧ limb_1_2.after args s (.returned v) u = true ∧ True) → FrameEnd s (.returned v) u (Jvm.fieldLocs frame_1_writes args s ++ Jvm.arrayLocs frame_1_arrays args s ++ Jvm.staticLocs frame_1_statics s) 56 86144 → Post tb e args s (.returned v) u) :
    ArmFor flags0 classFile x code maxLocals ret World_1 tables_1 room_1 Calls_1 rest_1 Pre_1 Post := by
  intro l hfl _ _ p e ha hc hk s m args below hf hA hF happ hP
  obtain ⟨hcalls, hrest, hpre⟩ := hP
  obtain ⟨-, -, -, hnamed, -, -, -, hat⟩ := (Spec.applies_iff hf).mp happ
  obtain ⟨hg, hn⟩ := and_e (Cond.before_iff.mp (show (Jvm.Cond.and given_1 narrow_1).before args s = true from hpre))
  obtain ⟨g0, r0⟩ := and_e hg
  obtain ⟨g1, r1⟩ := and_e r0
  obtain ⟨g2, r2⟩ := and_e r1
  obtain ⟨w0, w1, w2, rfl⟩ : ∃ w0 w1 w2 : Value, args = #[w0, w1, w2] := by
    have hs : args.size = 3 := by simpa [Cond.value, given_1] using g0
    obtain ⟨L⟩ := args
    match L, hs with
    | [w0, w1, w2], _ => exact ⟨w0, w1, w2, rfl⟩
  have hw := fun d (hd : d ∈ tables_1) => atoms_spec (ws := Jvm.Cond.code x code maxLocals ret :: tables_1) hat d (List.mem_cons_of_mem _ hd)
  have hfit : Fit s := fun {y c} hc i hi => by
    obtain ⟨ha, rfl⟩ := Array.getElem?_eq_some_iff.mp hc
    have q := List.all_eq_true.mp ((Array.all_eq_true_iff_forall_mem.mp hF) _ (Array.getElem_mem ha)) i (List.mem_range.mpr hi)
    simpa [Array.getElem?_eq_getElem hi] using q
  obtain ⟨i0, e0⟩ := is_v g1
  obtain rfl : w0 = (.int i0) := Option.some.inj e0
  obtain ⟨i1, e1⟩ := is_v g2
  obtain rfl : w1 = (.int i1) := Option.some.inj e1
  obtain ⟨i2, e2⟩ := is_v r2
  obtain rfl : w2 = (.int i2) := Option.some.inj e2
  have w_61 := hw _ (List.mem_of_getElem? (l := tables_1) (i := 61) rfl)
  obtain ⟨hsets, hown0⟩ := atoms_of _ (rest_1_c_eq ▸ (show rest_1_c.before _ s = true from hrest))
  have hh3 := own_eqint (Cond.before_iff.mp (hsets _ (List.mem_of_getElem? (i := 3) rfl)))
  have hS1 : Sta s s.heap "java/lang/Integer$IntegerCache" "high" "I" (.int (127 : Int32)) := Sta.start hh3 (Or.inr ⟨w_61, hsets _ (List.mem_of_getElem? (i := 0) rfl)⟩)
  obtain ⟨ca, evc⟩ := exa_v (Cond.before_iff.mp (hsets _ (List.mem_of_getElem? (i := 5) rfl)))
  have hS2 : Sta s s.heap "java/lang/Integer$IntegerCache" "cache" "[Ljava/lang/Integer;" (.ref ca) := Sta.start evc (Or.inr ⟨w_61, hsets _ (List.mem_of_getElem? (i := 2) rfl)⟩)
  have hC := own_cache_of hfit evc (Cond.before_iff.mp (hsets _ (List.mem_of_getElem? (i := 4) rfl))) (Cond.before_iff.mp (hsets _ (List.mem_of_getElem? (i := 6) rfl))) (Cond.before_iff.mp (hsets _ (List.mem_of_getElem? (i := 7) rfl)))
  obtain ⟨n, o, h1, h2, h3, _, L, rfl, ⟨rfl, N⟩, hq⟩ := own_law l s _ hw tables_1 i0 i1 i2 ca s.heap s.heap.size (Nat.le_refl _) hS1 hS2 hC p e ha hc hk s m _ below hf ((Spec.applies_iff_loose hf).mp happ).1 ⟨rfl, State.Warmed39.refl s, rfl⟩ trivial
  refine ⟨n, _, h1, h2, h3, hpost _ _ _ _ _ _ ⟨Cond.after_iff.mpr rfl, Cond.after_iff.mpr (eq_i res_at (Term.int_eval (1)) rfl), trivial⟩ ⟨hq.1, hq.2.1, (hq.2.2.sift fun y hy => Or.inr (N y hy)).mono (by decide) (by decide)⟩⟩
theorem main_1_1 : Claimed_1_1 := own_comes fun _ _ _ _ _ _ h hF => ⟨h.1, hF⟩
theorem main_1_2 : Claimed_1_2 := own_comes fun _ _ _ _ _ _ h hF => ⟨h.2.1, hF⟩
end Jvm.Pilot.@@N@@
namespace Jvm.Pilot.@@N@@
open Jvm Jvm.ClassFile Sem Op Lib Jvm.Free Jvm.Stand Jvm.Pilot.@@N@@.Jvm.D
/-! MADE BY PROGRAM (witnessworld.py) out of the Statement's table words and the real class files: 18 classes; the members and pool entries that the words name. The judged class is class 1, her method 1. -/
namespace start1
open Jvm.ClassFile
def u (s : String) : CpInfo := .utf8 (stringToUtf16 s)
/-- a pool by its gaps: so many unusable entries, then the entry; so many at the end -/
def gap : Nat → List CpInfo → List CpInfo
  | 0, r => r
  | n + 1, r => .unusable :: gap n r
def poolList (es : List (Nat × CpInfo)) (last : Nat) : List CpInfo := es.foldr (fun e r => gap e.1 (e.2 :: r)) (gap last [])
def pool (es : List (Nat × CpInfo)) (last : Nat) : Array CpInfo := ⟨poolList es last⟩
def fileOf (pool : Array CpInfo) (this : Nat) (attrs : Array Attribute := #[]) (ms : Array MethodInfo := #[]) (fl : Nat := 33) (sup : Nat := 0) (ifs : Array Nat := #[]) (fds : Array FieldInfo := #[]) : ClassFile where
  minorVersion := 0
  majorVersion := 65
  constantPool := pool
  accessFlags := fl
  thisClass := this
  superClass := sup
  interfaces := ifs
  fields := fds
  methods := ms
  attributes := attrs
def plain (name : String) (sup : Option ClassId) : Class where
  name := name
  kind := .ordinary
  loader := none
  accessFlags := 33
  super := sup
  interfaces := #[]
  cf := none
  fields := #[]
  methods := #[]
  instanceTypes := #[]
  staticTypes := #[]
  resolved := #[]
  callSites := []
  init := .initialized
  statics := none
  mirror := none

def pool0 : Array CpInfo := pool [(5, u "<init>"), (0, u "()V"), (1, .class_ 10), (1, u "java/lang/Object")] 113

def k0c0 : Code := { maxStack := 0, maxLocals := 1, code := object_method_1_code, exceptionTable := #[], attributes := #[] }
def k0m0 : Method := { name := "<init>", desc := "()V", sig := { parameters := [], returnType := none }, accessFlags := 1, code := some k0c0 }
/-- java/lang/Object -/
def k0 : Class := { plain "java/lang/Object" none with
  accessFlags := 33
  interfaces := #[]
  cf := some (fileOf pool0 8 #[] #[{ accessFlags := 1, nameIndex := 5, descriptorIndex := 6, attributes := #[] }] 33 0 #[] #[])
  fields := #[]
  methods := #[k0m0]
  instanceTypes := #[]
  staticTypes := #[]
  resolved := Array.replicate 124 none
  statics := none }

def pool1 : Array CpInfo := pool [(2, .class_ 4), (1, u "java/lang/Object"), (0, u "<init>"), (0, u "()V"), (0, .class_ 8), (0, u "com/example/parts_to_policy/partstopolicy/policy/Bdd"), (0, .methodref 7 10), (0, .nameAndType 5 11), (0, u "(I)V"), (0, .class_ 13), (0, u "com/example/parts_to_policy/partstopolicy/policy/PacketSet"), (0, .methodref 12 15), (0, .nameAndType 5 16), (0, u "(Lcom/example/parts_to_policy/partstopolicy/policy/Bdd;I)V"), (0, .methodref 18 19), (0, .class_ 20), (0, .nameAndType 21 22), (0, u "java/lang/Integer"), (0, u "valueOf"), (0, u "(I)Ljava/lang/Integer;"), (0, .methodref 12 24), (0, .nameAndType 25 26), (0, u "equals"), (0, u "(Ljava/lang/Object;)Z"), (0, .class_ 28), (0, u "com/example/parts_to_policy/partstopolicy/policy/PacketSetEqualsPinLaw"), (2, u "law"), (0, u "(III)Z")] 3

def k1m0 : Method := { name := "<init>", desc := "()V", sig := { parameters := [], returnType := none }, accessFlags := 1, code := none }
def k1c1 : Code := { maxStack := 4, maxLocals := 14, code := code, exceptionTable := #[], attributes := #[] }
def k1m1 : Method := { name := "law", desc := "(III)Z", sig := { parameters := [.int, .int, .int], returnType := some .boolean }, accessFlags := 9, code := some k1c1 }
/-- com/example/parts_to_policy/partstopolicy/policy/PacketSetEqualsPinLaw -/
def k1 : Class := { plain "com/example/parts_to_policy/partstopolicy/policy/PacketSetEqualsPinLaw" (some 0) with
  accessFlags := 49
  interfaces := #[]
  cf := some (fileOf pool1 27 #[] #[{ accessFlags := 1, nameIndex := 5, descriptorIndex := 6, attributes := #[] }, { accessFlags := 9, nameIndex := 31, descriptorIndex := 32, attributes := #[] }] 49 2 #[] #[])
  fields := #[]
  methods := #[k1m0, k1m1]
  instanceTypes := #[]
  staticTypes := #[]
  resolved := Array.replicate 36 none
  statics := none }

def pool2 : Array CpInfo := pool [(1, .methodref 2 3), (0, .class_ 4), (0, .nameAndType 5 6), (0, u "java/lang/Object"), (0, u "<init>"), (0, u "()V"), (0, .class_ 8), (0, u "com/example/parts_to_policy/partstopolicy/policy/Bdd"), (0, .fieldref 7 10), (0, .nameAndType 11 12), (0, u "variable"), (0, u "[I"), (0, .fieldref 7 14), (0, .nameAndType 15 12), (0, u "low"), (0, .fieldref 7 17), (0, .nameAndType 18 12), (0, u "high"), (0, .fieldref 7 20), (0, .nameAndType 21 22), (0, u "size"), (0, u "I"), (0, .fieldref 7 24), (0, .nameAndType 25 12), (0, u "unique"), (0, .methodref 27 28), (0, .class_ 29), (0, .nameAndType 30 31), (0, u "java/util/Arrays"), (0, u "fill"), (0, u "([II)V"), (0, .methodref 7 33), (0, .nameAndType 34 35), (0, u "clearCache"), (0, u "(I)V"), (22, .fieldref 7 59), (0, .nameAndType 60 12), (0, u "cacheOp"), (0, .fieldref 7 62), (0, .nameAndType 63 12), (0, u "cacheLeft"), (0, .fieldref 7 65), (0, .nameAndType 66 12), (0, u "cacheRight"), (0, .fieldref 7 68), (0, .nameAndType 69 12), (0, u "cacheResult"), (31, u "EMPTY"), (2, u "ALL"), (1, u "AND"), (0, u "OR"), (0, u "MINUS"), (1, u "INTERSECTS"), (1, u "FORGET"), (1, u "FREE"), (1, u "FIRST_CAPACITY"), (1, u "CACHE_MIN")] 12

def k2c0 : Code := { maxStack := 3, maxLocals := 2, code := prog_93_method_1_code, exceptionTable := #[], attributes := #[] }
def k2m0 : Method := { name := "<init>", desc := "(I)V", sig := { parameters := [.int], returnType := none }, accessFlags := 0, code := some k2c0 }
def k2c1 : Code := { maxStack := 2, maxLocals := 2, code := prog_93_method_14_code, exceptionTable := #[], attributes := #[] }
def k2m1 : Method := { name := "clearCache", desc := "(I)V", sig := { parameters := [.int], returnType := none }, accessFlags := 2, code := some k2c1 }
/-- com/example/parts_to_policy/partstopolicy/policy/Bdd -/
def k2 : Class := { plain "com/example/parts_to_policy/partstopolicy/policy/Bdd" (some 0) with
  accessFlags := 48
  interfaces := #[]
  cf := some (fileOf pool2 7 #[] #[{ accessFlags := 0, nameIndex := 5, descriptorIndex := 35, attributes := #[] }, { accessFlags := 2, nameIndex := 34, descriptorIndex := 35, attributes := #[] }] 48 2 #[] #[{ accessFlags := 24, nameIndex := 101, descriptorIndex := 22, attributes := #[] }, { accessFlags := 24, nameIndex := 104, descriptorIndex := 22, attributes := #[] }, { accessFlags := 26, nameIndex := 106, descriptorIndex := 22, attributes := #[] }, { accessFlags := 26, nameIndex := 107, descriptorIndex := 22, attributes := #[] }, { accessFlags := 26, nameIndex := 108, descriptorIndex := 22, attributes := #[] }, { accessFlags := 26, nameIndex := 110, descriptorIndex := 22, attributes := #[] }, { accessFlags := 26, nameIndex := 112, descriptorIndex := 22, attributes := #[] }, { accessFlags := 26, nameIndex := 114, descriptorIndex := 22, attributes := #[] }, { accessFlags := 26, nameIndex := 116, descriptorIndex := 22, attributes := #[] }, { accessFlags := 26, nameIndex := 118, descriptorIndex := 22, attributes := #[] }, { accessFlags := 2, nameIndex := 11, descriptorIndex := 12, attributes := #[] }, { accessFlags := 2, nameIndex := 15, descriptorIndex := 12, attributes := #[] }, { accessFlags := 2, nameIndex := 18, descriptorIndex := 12, attributes := #[] }, { accessFlags := 2, nameIndex := 21, descriptorIndex := 22, attributes := #[] }, { accessFlags := 2, nameIndex := 25, descriptorIndex := 12, attributes := #[] }, { accessFlags := 2, nameIndex := 60, descriptorIndex := 12, attributes := #[] }, { accessFlags := 2, nameIndex := 63, descriptorIndex := 12, attributes := #[] }, { accessFlags := 2, nameIndex := 66, descriptorIndex := 12, attributes := #[] }, { accessFlags := 2, nameIndex := 69, descriptorIndex := 12, attributes := #[] }])
  fields := #[{ name := "EMPTY", type := .int, accessFlags := 24, slot := 0, constantValue := 0 }, { name := "ALL", type := .int, accessFlags := 24, slot := 1, constantValue := 0 }, { name := "AND", type := .int, accessFlags := 26, slot := 2, constantValue := 0 }, { name := "OR", type := .int, accessFlags := 26, slot := 3, constantValue := 0 }, { name := "MINUS", type := .int, accessFlags := 26, slot := 4, constantValue := 0 }, { name := "INTERSECTS", type := .int, accessFlags := 26, slot := 5, constantValue := 0 }, { name := "FORGET", type := .int, accessFlags := 26, slot := 6, constantValue := 0 }, { name := "FREE", type := .int, accessFlags := 26, slot := 7, constantValue := 0 }, { name := "FIRST_CAPACITY", type := .int, accessFlags := 26, slot := 8, constantValue := 0 }, { name := "CACHE_MIN", type := .int, accessFlags := 26, slot := 9, constantValue := 0 }, { name := "variable", type := (.array .int), accessFlags := 2, slot := 0, constantValue := 0 }, { name := "low", type := (.array .int), accessFlags := 2, slot := 1, constantValue := 0 }, { name := "high", type := (.array .int), accessFlags := 2, slot := 2, constantValue := 0 }, { name := "size", type := .int, accessFlags := 2, slot := 3, constantValue := 0 }, { name := "unique", type := (.array .int), accessFlags := 2, slot := 4, constantValue := 0 }, { name := "cacheOp", type := (.array .int), accessFlags := 2, slot := 5, constantValue := 0 }, { name := "cacheLeft", type := (.array .int), accessFlags := 2, slot := 6, constantValue := 0 }, { name := "cacheRight", type := (.array .int), accessFlags := 2, slot := 7, constantValue := 0 }, { name := "cacheResult", type := (.array .int), accessFlags := 2, slot := 8, constantValue := 0 }]
  methods := #[k2m0, k2m1]
  instanceTypes := #[(.array .int), (.array .int), (.array .int), .int, (.array .int), (.array .int), (.array .int), (.array .int), (.array .int)]
  staticTypes := #[.int, .int, .int, .int, .int, .int, .int, .int, .int, .int]
  resolved := Array.replicate 131 none
  statics := none }

def pool3 : Array CpInfo := pool [(2, .class_ 4), (1, u "java/lang/Object"), (0, u "<init>"), (0, u "()V"), (7, .class_ 16), (1, u "java/util/Arrays"), (57, .class_ 76), (1, u "java/util/Arrays$NaturalOrder"), (36, .class_ 115), (1, u "java/util/Arrays$LegacyMergeSort"), (1, u "Z"), (257, .class_ 376), (0, u "java/util/Arrays$ArrayList"), (68, u "$assertionsDisabled"), (269, u "MIN_ARRAY_SORT_GRAN"), (0, u "I"), (2, u "INSERTIONSORT_THRESHOLD"), (120, u "fill"), (4, u "([II)V"), (129, .class_ 976), (0, u "java/util/Arrays$ArrayItr")] 52

def k3m0 : Method := { name := "<init>", desc := "()V", sig := { parameters := [], returnType := none }, accessFlags := 2, code := none }
def k3c1 : Code := { maxStack := 3, maxLocals := 4, code := jdk_65_method_103_code, exceptionTable := #[], attributes := #[] }
def k3m1 : Method := { name := "fill", desc := "([II)V", sig := { parameters := [(.array .int), .int], returnType := none }, accessFlags := 9, code := some k3c1 }
/-- java/util/Arrays -/
def k3 : Class := { plain "java/util/Arrays" (some 0) with
  accessFlags := 49
  interfaces := #[]
  cf := some (fileOf pool3 14 #[.nestMembers #[975, 375, 113, 74]] #[{ accessFlags := 2, nameIndex := 5, descriptorIndex := 6, attributes := #[] }, { accessFlags := 9, nameIndex := 840, descriptorIndex := 845, attributes := #[] }] 49 2 #[] #[{ accessFlags := 26, nameIndex := 715, descriptorIndex := 716, attributes := #[] }, { accessFlags := 26, nameIndex := 719, descriptorIndex := 716, attributes := #[] }, { accessFlags := 4120, nameIndex := 445, descriptorIndex := 117, attributes := #[] }])
  fields := #[{ name := "MIN_ARRAY_SORT_GRAN", type := .int, accessFlags := 26, slot := 0, constantValue := 0 }, { name := "INSERTIONSORT_THRESHOLD", type := .int, accessFlags := 26, slot := 1, constantValue := 0 }, { name := "$assertionsDisabled", type := .boolean, accessFlags := 4120, slot := 2, constantValue := 0 }]
  methods := #[k3m0, k3m1]
  instanceTypes := #[]
  staticTypes := #[.int, .int, .boolean]
  resolved := Array.replicate 1029 none
  statics := none }

def pool4 : Array CpInfo := pool [(1, .methodref 2 3), (0, .class_ 4), (0, .nameAndType 5 6), (0, u "java/lang/Object"), (0, u "<init>"), (0, u "()V"), (0, .fieldref 8 9), (0, .class_ 10), (0, .nameAndType 11 12), (0, u "com/example/parts_to_policy/partstopolicy/policy/PacketSet"), (0, u "bdd"), (0, u "Lcom/example/parts_to_policy/partstopolicy/policy/Bdd;"), (0, .fieldref 8 14), (0, .nameAndType 15 16), (0, u "node"), (0, u "I"), (12, u "(Lcom/example/parts_to_policy/partstopolicy/policy/Bdd;I)V"), (29, u "equals"), (0, u "(Ljava/lang/Object;)Z")] 4

def k4c0 : Code := { maxStack := 2, maxLocals := 3, code := prog_106_method_1_code, exceptionTable := #[], attributes := #[] }
def k4m0 : Method := { name := "<init>", desc := "(Lcom/example/parts_to_policy/partstopolicy/policy/Bdd;I)V", sig := { parameters := [(.object "com/example/parts_to_policy/partstopolicy/policy/Bdd"), .int], returnType := none }, accessFlags := 0, code := some k4c0 }
def k4c1 : Code := { maxStack := 2, maxLocals := 3, code := prog_106_method_8_code, exceptionTable := #[], attributes := #[] }
def k4m1 : Method := { name := "equals", desc := "(Ljava/lang/Object;)Z", sig := { parameters := [(.object "java/lang/Object")], returnType := some .boolean }, accessFlags := 1, code := some k4c1 }
/-- com/example/parts_to_policy/partstopolicy/policy/PacketSet -/
def k4 : Class := { plain "com/example/parts_to_policy/partstopolicy/policy/PacketSet" (some 0) with
  accessFlags := 48
  interfaces := #[]
  cf := some (fileOf pool4 8 #[] #[{ accessFlags := 0, nameIndex := 5, descriptorIndex := 29, attributes := #[] }, { accessFlags := 1, nameIndex := 59, descriptorIndex := 60, attributes := #[] }] 48 2 #[] #[{ accessFlags := 18, nameIndex := 11, descriptorIndex := 12, attributes := #[] }, { accessFlags := 18, nameIndex := 15, descriptorIndex := 16, attributes := #[] }])
  fields := #[{ name := "bdd", type := (.object "com/example/parts_to_policy/partstopolicy/policy/Bdd"), accessFlags := 18, slot := 0, constantValue := 0 }, { name := "node", type := .int, accessFlags := 18, slot := 1, constantValue := 0 }]
  methods := #[k4m0, k4m1]
  instanceTypes := #[(.object "com/example/parts_to_policy/partstopolicy/policy/Bdd"), .int]
  staticTypes := #[]
  resolved := Array.replicate 65 none
  statics := none }

def pool5 : Array CpInfo := pool [(1, .class_ 2), (0, u "java/io/Serializable"), (0, .class_ 4), (0, u "java/lang/Object")] 2

/-- java/io/Serializable -/
def k5 : Class := { plain "java/io/Serializable" (some 0) with
  accessFlags := 1537
  interfaces := #[]
  cf := some (fileOf pool5 1 #[] #[] 1537 3 #[] #[])
  fields := #[]
  methods := #[]
  instanceTypes := #[]
  staticTypes := #[]
  resolved := Array.replicate 7 none
  statics := none }

def pool6 : Array CpInfo := pool [(1, .methodref 2 3), (0, .class_ 4), (0, .nameAndType 5 6), (0, u "java/lang/Object"), (0, u "<init>"), (0, u "()V"), (1, .class_ 10), (1, u "java/lang/Number"), (2, .class_ 14), (0, u "java/io/Serializable"), (0, u "serialVersionUID"), (0, u "J")] 20

def k6c0 : Code := { maxStack := 1, maxLocals := 1, code := jdk_18_method_1_code, exceptionTable := #[], attributes := #[] }
def k6m0 : Method := { name := "<init>", desc := "()V", sig := { parameters := [], returnType := none }, accessFlags := 1, code := some k6c0 }
/-- java/lang/Number -/
def k6 : Class := { plain "java/lang/Number" (some 0) with
  accessFlags := 1057
  interfaces := #[5]
  cf := some (fileOf pool6 8 #[] #[{ accessFlags := 1, nameIndex := 5, descriptorIndex := 6, attributes := #[] }] 1057 2 #[13] #[{ accessFlags := 26, nameIndex := 15, descriptorIndex := 16, attributes := #[] }])
  fields := #[{ name := "serialVersionUID", type := .long, accessFlags := 26, slot := 0, constantValue := 0 }]
  methods := #[k6m0]
  instanceTypes := #[]
  staticTypes := #[.long]
  resolved := Array.replicate 37 none
  statics := none }

def pool7 : Array CpInfo := pool [(1, .class_ 2), (0, u "java/lang/Comparable"), (0, .class_ 4), (0, u "java/lang/Object")] 7

/-- java/lang/Comparable -/
def k7 : Class := { plain "java/lang/Comparable" (some 0) with
  accessFlags := 1537
  interfaces := #[]
  cf := some (fileOf pool7 1 #[] #[] 1537 3 #[] #[])
  fields := #[]
  methods := #[]
  instanceTypes := #[]
  staticTypes := #[]
  resolved := Array.replicate 12 none
  statics := none }

def pool8 : Array CpInfo := pool [(1, .class_ 2), (0, u "java/lang/constant/Constable"), (0, .class_ 4), (0, u "java/lang/Object")] 6

/-- java/lang/constant/Constable -/
def k8 : Class := { plain "java/lang/constant/Constable" (some 0) with
  accessFlags := 1537
  interfaces := #[]
  cf := some (fileOf pool8 1 #[] #[] 1537 3 #[] #[])
  fields := #[]
  methods := #[]
  instanceTypes := #[]
  staticTypes := #[]
  resolved := Array.replicate 11 none
  statics := none }

def pool9 : Array CpInfo := pool [(1, .class_ 2), (0, u "java/lang/constant/ConstantDesc"), (0, .class_ 4), (0, u "java/lang/Object")] 32

/-- java/lang/constant/ConstantDesc -/
def k9 : Class := { plain "java/lang/constant/ConstantDesc" (some 0) with
  accessFlags := 1537
  interfaces := #[]
  cf := some (fileOf pool9 1 #[] #[] 1537 3 #[] #[])
  fields := #[]
  methods := #[]
  instanceTypes := #[]
  staticTypes := #[]
  resolved := Array.replicate 37 none
  statics := none }

def pool10 : Array CpInfo := pool [(1, .class_ 2), (0, u "java/lang/Integer"), (16, u "digits"), (0, u "[C"), (46, u "<init>"), (17, u "DigitOnes"), (0, u "[B"), (2, u "DigitTens"), (10, .nameAndType 67 101), (0, u "()V"), (85, u "valueOf"), (0, u "(I)Ljava/lang/Integer;"), (0, .class_ 190), (0, u "java/lang/Integer$IntegerCache"), (0, .fieldref 189 192), (0, .nameAndType 193 194), (0, u "high"), (0, u "I"), (0, .fieldref 189 196), (0, .nameAndType 197 198), (0, u "cache"), (0, u "[Ljava/lang/Integer;"), (0, .methodref 1 200), (0, .nameAndType 67 201), (0, u "(I)V"), (0, .methodref 203 100), (0, .class_ 204), (0, u "java/lang/Number"), (0, .fieldref 1 206), (0, .nameAndType 207 194), (0, u "value"), (94, u "TYPE"), (0, u "Ljava/lang/Class;"), (0, .class_ 305), (0, u "java/lang/Comparable"), (0, .class_ 307), (0, u "java/lang/constant/Constable"), (0, .class_ 309), (0, u "java/lang/constant/ConstantDesc"), (0, u "MIN_VALUE"), (1, u "MAX_VALUE"), (3, u "SIZE"), (1, u "BYTES"), (1, u "serialVersionUID"), (0, u "J")] 131

def k10c0 : Code := { maxStack := 3, maxLocals := 1, code := jdk_33_method_22_code, exceptionTable := #[], attributes := #[] }
def k10m0 : Method := { name := "valueOf", desc := "(I)Ljava/lang/Integer;", sig := { parameters := [.int], returnType := some (.object "java/lang/Integer") }, accessFlags := 9, code := some k10c0 }
def k10c1 : Code := { maxStack := 2, maxLocals := 2, code := jdk_33_method_23_code, exceptionTable := #[], attributes := #[] }
def k10m1 : Method := { name := "<init>", desc := "(I)V", sig := { parameters := [.int], returnType := none }, accessFlags := 1, code := some k10c1 }
/-- java/lang/Integer -/
def k10 : Class := { plain "java/lang/Integer" (some 6) with
  accessFlags := 49
  interfaces := #[7, 8, 9]
  cf := some (fileOf pool10 1 #[.nestMembers #[189]] #[{ accessFlags := 9, nameIndex := 187, descriptorIndex := 188, attributes := #[] }, { accessFlags := 1, nameIndex := 67, descriptorIndex := 201, attributes := #[] }] 49 203 #[304, 306, 308] #[{ accessFlags := 25, nameIndex := 310, descriptorIndex := 194, attributes := #[] }, { accessFlags := 25, nameIndex := 312, descriptorIndex := 194, attributes := #[] }, { accessFlags := 25, nameIndex := 302, descriptorIndex := 303, attributes := #[] }, { accessFlags := 24, nameIndex := 19, descriptorIndex := 20, attributes := #[] }, { accessFlags := 24, nameIndex := 89, descriptorIndex := 86, attributes := #[] }, { accessFlags := 24, nameIndex := 85, descriptorIndex := 86, attributes := #[] }, { accessFlags := 18, nameIndex := 207, descriptorIndex := 194, attributes := #[] }, { accessFlags := 25, nameIndex := 316, descriptorIndex := 194, attributes := #[] }, { accessFlags := 25, nameIndex := 318, descriptorIndex := 194, attributes := #[] }, { accessFlags := 26, nameIndex := 320, descriptorIndex := 321, attributes := #[] }])
  fields := #[{ name := "MIN_VALUE", type := .int, accessFlags := 25, slot := 0, constantValue := 0 }, { name := "MAX_VALUE", type := .int, accessFlags := 25, slot := 1, constantValue := 0 }, { name := "TYPE", type := (.object "java/lang/Class"), accessFlags := 25, slot := 2, constantValue := 0 }, { name := "digits", type := (.array .char), accessFlags := 24, slot := 3, constantValue := 0 }, { name := "DigitTens", type := (.array .byte), accessFlags := 24, slot := 4, constantValue := 0 }, { name := "DigitOnes", type := (.array .byte), accessFlags := 24, slot := 5, constantValue := 0 }, { name := "value", type := .int, accessFlags := 18, slot := 0, constantValue := 0 }, { name := "SIZE", type := .int, accessFlags := 25, slot := 6, constantValue := 0 }, { name := "BYTES", type := .int, accessFlags := 25, slot := 7, constantValue := 0 }, { name := "serialVersionUID", type := .long, accessFlags := 26, slot := 8, constantValue := 0 }]
  methods := #[k10m0, k10m1]
  instanceTypes := #[.int]
  staticTypes := #[.int, .int, (.object "java/lang/Class"), (.array .char), (.array .byte), (.array .byte), .int, .int, .long]
  resolved := Array.replicate 453 none
  statics := none }

def pool11 : Array CpInfo := pool [(2, .class_ 4), (1, u "java/lang/Object"), (0, u "<init>"), (0, u "()V"), (0, .class_ 8), (0, u "java/lang/Integer"), (7, .class_ 18), (1, u "java/lang/Integer$IntegerCache"), (0, u "$assertionsDisabled"), (0, u "Z"), (26, u "high"), (0, u "I"), (8, u "archivedCache"), (0, u "[Ljava/lang/Integer;"), (12, u "cache"), (0, u "low")] 27

def k11m0 : Method := { name := "<init>", desc := "()V", sig := { parameters := [], returnType := none }, accessFlags := 2, code := none }
/-- java/lang/Integer$IntegerCache -/
def k11 : Class := { plain "java/lang/Integer$IntegerCache" (some 0) with
  accessFlags := 48
  interfaces := #[]
  cf := some (fileOf pool11 16 #[.nestHost 7] #[{ accessFlags := 2, nameIndex := 5, descriptorIndex := 6, attributes := #[] }] 48 2 #[] #[{ accessFlags := 24, nameIndex := 72, descriptorIndex := 48, attributes := #[] }, { accessFlags := 24, nameIndex := 47, descriptorIndex := 48, attributes := #[] }, { accessFlags := 24, nameIndex := 71, descriptorIndex := 58, attributes := #[] }, { accessFlags := 8, nameIndex := 57, descriptorIndex := 58, attributes := #[] }, { accessFlags := 4120, nameIndex := 19, descriptorIndex := 20, attributes := #[] }])
  fields := #[{ name := "low", type := .int, accessFlags := 24, slot := 0, constantValue := 0 }, { name := "high", type := .int, accessFlags := 24, slot := 1, constantValue := 0 }, { name := "cache", type := (.array (.object "java/lang/Integer")), accessFlags := 24, slot := 2, constantValue := 0 }, { name := "archivedCache", type := (.array (.object "java/lang/Integer")), accessFlags := 8, slot := 3, constantValue := 0 }, { name := "$assertionsDisabled", type := .boolean, accessFlags := 4120, slot := 4, constantValue := 0 }]
  methods := #[k11m0]
  instanceTypes := #[]
  staticTypes := #[.int, .int, (.array (.object "java/lang/Integer")), (.array (.object "java/lang/Integer")), .boolean]
  resolved := Array.replicate 100 none
  statics := some 0 }

def pool12 : Array CpInfo := pool [(1, u "java/lang/Cloneable"), (0, .class_ 1), (0, u "java/lang/Object"), (0, .class_ 3)] 3

/-- java/lang/Cloneable -/
def k12 : Class := { plain "java/lang/Cloneable" (some 0) with
  accessFlags := 1537
  interfaces := #[]
  cf := some (fileOf pool12 2 #[] #[] 1537 4 #[] #[])
  fields := #[]
  methods := #[]
  instanceTypes := #[]
  staticTypes := #[]
  resolved := Array.replicate 8 none
  statics := none }

/-- the primitive byte -/
def k13 : Class := { plain "byte" none with kind := .primitive 'B', accessFlags := 0x411 }
/-- [B -/
def k14 : Class := { plain "[B" (some 0) with kind := .array 13 .byte, interfaces := #[12, 5], accessFlags := 1041 }

/-- the primitive int -/
def k15 : Class := { plain "int" none with kind := .primitive 'I', accessFlags := 0x411 }
/-- [I -/
def k16 : Class := { plain "[I" (some 0) with kind := .array 15 .int, interfaces := #[12, 5], accessFlags := 1041 }

/-- [Ljava/lang/Integer; -/
def k17 : Class := { plain "[Ljava/lang/Integer;" (some 0) with kind := .array 10 (.object "java/lang/Integer"), interfaces := #[12, 5], accessFlags := 1041 }

def heap : Heap := #[{ cls := 11, slots := #[.int 0, .int 127, .ref 1, .null, .int 0], vm := .statics 11 },
  { cls := 17, slots := #[.ref 2, .ref 3, .ref 4, .ref 5, .ref 6, .ref 7, .ref 8, .ref 9, .ref 10, .ref 11, .ref 12, .ref 13, .ref 14, .ref 15, .ref 16, .ref 17, .ref 18, .ref 19, .ref 20, .ref 21, .ref 22, .ref 23, .ref 24, .ref 25, .ref 26, .ref 27, .ref 28, .ref 29, .ref 30, .ref 31, .ref 32, .ref 33, .ref 34, .ref 35, .ref 36, .ref 37, .ref 38, .ref 39, .ref 40, .ref 41, .ref 42, .ref 43, .ref 44, .ref 45, .ref 46, .ref 47, .ref 48, .ref 49, .ref 50, .ref 51, .ref 52, .ref 53, .ref 54, .ref 55, .ref 56, .ref 57, .ref 58, .ref 59, .ref 60, .ref 61, .ref 62, .ref 63, .ref 64, .ref 65, .ref 66, .ref 67, .ref 68, .ref 69, .ref 70, .ref 71, .ref 72, .ref 73, .ref 74, .ref 75, .ref 76, .ref 77, .ref 78, .ref 79, .ref 80, .ref 81, .ref 82, .ref 83, .ref 84, .ref 85, .ref 86, .ref 87, .ref 88, .ref 89, .ref 90, .ref 91, .ref 92, .ref 93, .ref 94, .ref 95, .ref 96, .ref 97, .ref 98, .ref 99, .ref 100, .ref 101, .ref 102, .ref 103, .ref 104, .ref 105, .ref 106, .ref 107, .ref 108, .ref 109, .ref 110, .ref 111, .ref 112, .ref 113, .ref 114, .ref 115, .ref 116, .ref 117, .ref 118, .ref 119, .ref 120, .ref 121, .ref 122, .ref 123, .ref 124, .ref 125, .ref 126, .ref 127, .ref 128, .ref 129, .ref 130, .ref 131, .ref 132, .ref 133, .ref 134, .ref 135, .ref 136, .ref 137, .ref 138, .ref 139, .ref 140, .ref 141, .ref 142, .ref 143, .ref 144, .ref 145, .ref 146, .ref 147, .ref 148, .ref 149, .ref 150, .ref 151, .ref 152, .ref 153, .ref 154, .ref 155, .ref 156, .ref 157, .ref 158, .ref 159, .ref 160, .ref 161, .ref 162, .ref 163, .ref 164, .ref 165, .ref 166, .ref 167, .ref 168, .ref 169, .ref 170, .ref 171, .ref 172, .ref 173, .ref 174, .ref 175, .ref 176, .ref 177, .ref 178, .ref 179, .ref 180, .ref 181, .ref 182, .ref 183, .ref 184, .ref 185, .ref 186, .ref 187, .ref 188, .ref 189, .ref 190, .ref 191, .ref 192, .ref 193, .ref 194, .ref 195, .ref 196, .ref 197, .ref 198, .ref 199, .ref 200, .ref 201, .ref 202, .ref 203, .ref 204, .ref 205, .ref 206, .ref 207, .ref 208, .ref 209, .ref 210, .ref 211, .ref 212, .ref 213, .ref 214, .ref 215, .ref 216, .ref 217, .ref 218, .ref 219, .ref 220, .ref 221, .ref 222, .ref 223, .ref 224, .ref 225, .ref 226, .ref 227, .ref 228, .ref 229, .ref 230, .ref 231, .ref 232, .ref 233, .ref 234, .ref 235, .ref 236, .ref 237, .ref 238, .ref 239, .ref 240, .ref 241, .ref 242, .ref 243, .ref 244, .ref 245, .ref 246, .ref 247, .ref 248, .ref 249, .ref 250, .ref 251, .ref 252, .ref 253, .ref 254, .ref 255, .ref 256, .ref 257], vm := .none },
  { cls := 10, slots := #[.int (-128)], vm := .none },
  { cls := 10, slots := #[.int (-127)], vm := .none },
  { cls := 10, slots := #[.int (-126)], vm := .none },
  { cls := 10, slots := #[.int (-125)], vm := .none },
  { cls := 10, slots := #[.int (-124)], vm := .none },
  { cls := 10, slots := #[.int (-123)], vm := .none },
  { cls := 10, slots := #[.int (-122)], vm := .none },
  { cls := 10, slots := #[.int (-121)], vm := .none },
  { cls := 10, slots := #[.int (-120)], vm := .none },
  { cls := 10, slots := #[.int (-119)], vm := .none },
  { cls := 10, slots := #[.int (-118)], vm := .none },
  { cls := 10, slots := #[.int (-117)], vm := .none },
  { cls := 10, slots := #[.int (-116)], vm := .none },
  { cls := 10, slots := #[.int (-115)], vm := .none },
  { cls := 10, slots := #[.int (-114)], vm := .none },
  { cls := 10, slots := #[.int (-113)], vm := .none },
  { cls := 10, slots := #[.int (-112)], vm := .none },
  { cls := 10, slots := #[.int (-111)], vm := .none },
  { cls := 10, slots := #[.int (-110)], vm := .none },
  { cls := 10, slots := #[.int (-109)], vm := .none },
  { cls := 10, slots := #[.int (-108)], vm := .none },
  { cls := 10, slots := #[.int (-107)], vm := .none },
  { cls := 10, slots := #[.int (-106)], vm := .none },
  { cls := 10, slots := #[.int (-105)], vm := .none },
  { cls := 10, slots := #[.int (-104)], vm := .none },
  { cls := 10, slots := #[.int (-103)], vm := .none },
  { cls := 10, slots := #[.int (-102)], vm := .none },
  { cls := 10, slots := #[.int (-101)], vm := .none },
  { cls := 10, slots := #[.int (-100)], vm := .none },
  { cls := 10, slots := #[.int (-99)], vm := .none },
  { cls := 10, slots := #[.int (-98)], vm := .none },
  { cls := 10, slots := #[.int (-97)], vm := .none },
  { cls := 10, slots := #[.int (-96)], vm := .none },
  { cls := 10, slots := #[.int (-95)], vm := .none },
  { cls := 10, slots := #[.int (-94)], vm := .none },
  { cls := 10, slots := #[.int (-93)], vm := .none },
  { cls := 10, slots := #[.int (-92)], vm := .none },
  { cls := 10, slots := #[.int (-91)], vm := .none },
  { cls := 10, slots := #[.int (-90)], vm := .none },
  { cls := 10, slots := #[.int (-89)], vm := .none },
  { cls := 10, slots := #[.int (-88)], vm := .none },
  { cls := 10, slots := #[.int (-87)], vm := .none },
  { cls := 10, slots := #[.int (-86)], vm := .none },
  { cls := 10, slots := #[.int (-85)], vm := .none },
  { cls := 10, slots := #[.int (-84)], vm := .none },
  { cls := 10, slots := #[.int (-83)], vm := .none },
  { cls := 10, slots := #[.int (-82)], vm := .none },
  { cls := 10, slots := #[.int (-81)], vm := .none },
  { cls := 10, slots := #[.int (-80)], vm := .none },
  { cls := 10, slots := #[.int (-79)], vm := .none },
  { cls := 10, slots := #[.int (-78)], vm := .none },
  { cls := 10, slots := #[.int (-77)], vm := .none },
  { cls := 10, slots := #[.int (-76)], vm := .none },
  { cls := 10, slots := #[.int (-75)], vm := .none },
  { cls := 10, slots := #[.int (-74)], vm := .none },
  { cls := 10, slots := #[.int (-73)], vm := .none },
  { cls := 10, slots := #[.int (-72)], vm := .none },
  { cls := 10, slots := #[.int (-71)], vm := .none },
  { cls := 10, slots := #[.int (-70)], vm := .none },
  { cls := 10, slots := #[.int (-69)], vm := .none },
  { cls := 10, slots := #[.int (-68)], vm := .none },
  { cls := 10, slots := #[.int (-67)], vm := .none },
  { cls := 10, slots := #[.int (-66)], vm := .none },
  { cls := 10, slots := #[.int (-65)], vm := .none },
  { cls := 10, slots := #[.int (-64)], vm := .none },
  { cls := 10, slots := #[.int (-63)], vm := .none },
  { cls := 10, slots := #[.int (-62)], vm := .none },
  { cls := 10, slots := #[.int (-61)], vm := .none },
  { cls := 10, slots := #[.int (-60)], vm := .none },
  { cls := 10, slots := #[.int (-59)], vm := .none },
  { cls := 10, slots := #[.int (-58)], vm := .none },
  { cls := 10, slots := #[.int (-57)], vm := .none },
  { cls := 10, slots := #[.int (-56)], vm := .none },
  { cls := 10, slots := #[.int (-55)], vm := .none },
  { cls := 10, slots := #[.int (-54)], vm := .none },
  { cls := 10, slots := #[.int (-53)], vm := .none },
  { cls := 10, slots := #[.int (-52)], vm := .none },
  { cls := 10, slots := #[.int (-51)], vm := .none },
  { cls := 10, slots := #[.int (-50)], vm := .none },
  { cls := 10, slots := #[.int (-49)], vm := .none },
  { cls := 10, slots := #[.int (-48)], vm := .none },
  { cls := 10, slots := #[.int (-47)], vm := .none },
  { cls := 10, slots := #[.int (-46)], vm := .none },
  { cls := 10, slots := #[.int (-45)], vm := .none },
  { cls := 10, slots := #[.int (-44)], vm := .none },
  { cls := 10, slots := #[.int (-43)], vm := .none },
  { cls := 10, slots := #[.int (-42)], vm := .none },
  { cls := 10, slots := #[.int (-41)], vm := .none },
  { cls := 10, slots := #[.int (-40)], vm := .none },
  { cls := 10, slots := #[.int (-39)], vm := .none },
  { cls := 10, slots := #[.int (-38)], vm := .none },
  { cls := 10, slots := #[.int (-37)], vm := .none },
  { cls := 10, slots := #[.int (-36)], vm := .none },
  { cls := 10, slots := #[.int (-35)], vm := .none },
  { cls := 10, slots := #[.int (-34)], vm := .none },
  { cls := 10, slots := #[.int (-33)], vm := .none },
  { cls := 10, slots := #[.int (-32)], vm := .none },
  { cls := 10, slots := #[.int (-31)], vm := .none },
  { cls := 10, slots := #[.int (-30)], vm := .none },
  { cls := 10, slots := #[.int (-29)], vm := .none },
  { cls := 10, slots := #[.int (-28)], vm := .none },
  { cls := 10, slots := #[.int (-27)], vm := .none },
  { cls := 10, slots := #[.int (-26)], vm := .none },
  { cls := 10, slots := #[.int (-25)], vm := .none },
  { cls := 10, slots := #[.int (-24)], vm := .none },
  { cls := 10, slots := #[.int (-23)], vm := .none },
  { cls := 10, slots := #[.int (-22)], vm := .none },
  { cls := 10, slots := #[.int (-21)], vm := .none },
  { cls := 10, slots := #[.int (-20)], vm := .none },
  { cls := 10, slots := #[.int (-19)], vm := .none },
  { cls := 10, slots := #[.int (-18)], vm := .none },
  { cls := 10, slots := #[.int (-17)], vm := .none },
  { cls := 10, slots := #[.int (-16)], vm := .none },
  { cls := 10, slots := #[.int (-15)], vm := .none },
  { cls := 10, slots := #[.int (-14)], vm := .none },
  { cls := 10, slots := #[.int (-13)], vm := .none },
  { cls := 10, slots := #[.int (-12)], vm := .none },
  { cls := 10, slots := #[.int (-11)], vm := .none },
  { cls := 10, slots := #[.int (-10)], vm := .none },
  { cls := 10, slots := #[.int (-9)], vm := .none },
  { cls := 10, slots := #[.int (-8)], vm := .none },
  { cls := 10, slots := #[.int (-7)], vm := .none },
  { cls := 10, slots := #[.int (-6)], vm := .none },
  { cls := 10, slots := #[.int (-5)], vm := .none },
  { cls := 10, slots := #[.int (-4)], vm := .none },
  { cls := 10, slots := #[.int (-3)], vm := .none },
  { cls := 10, slots := #[.int (-2)], vm := .none },
  { cls := 10, slots := #[.int (-1)], vm := .none },
  { cls := 10, slots := #[.int 0], vm := .none },
  { cls := 10, slots := #[.int 1], vm := .none },
  { cls := 10, slots := #[.int 2], vm := .none },
  { cls := 10, slots := #[.int 3], vm := .none },
  { cls := 10, slots := #[.int 4], vm := .none },
  { cls := 10, slots := #[.int 5], vm := .none },
  { cls := 10, slots := #[.int 6], vm := .none },
  { cls := 10, slots := #[.int 7], vm := .none },
  { cls := 10, slots := #[.int 8], vm := .none },
  { cls := 10, slots := #[.int 9], vm := .none },
  { cls := 10, slots := #[.int 10], vm := .none },
  { cls := 10, slots := #[.int 11], vm := .none },
  { cls := 10, slots := #[.int 12], vm := .none },
  { cls := 10, slots := #[.int 13], vm := .none },
  { cls := 10, slots := #[.int 14], vm := .none },
  { cls := 10, slots := #[.int 15], vm := .none },
  { cls := 10, slots := #[.int 16], vm := .none },
  { cls := 10, slots := #[.int 17], vm := .none },
  { cls := 10, slots := #[.int 18], vm := .none },
  { cls := 10, slots := #[.int 19], vm := .none },
  { cls := 10, slots := #[.int 20], vm := .none },
  { cls := 10, slots := #[.int 21], vm := .none },
  { cls := 10, slots := #[.int 22], vm := .none },
  { cls := 10, slots := #[.int 23], vm := .none },
  { cls := 10, slots := #[.int 24], vm := .none },
  { cls := 10, slots := #[.int 25], vm := .none },
  { cls := 10, slots := #[.int 26], vm := .none },
  { cls := 10, slots := #[.int 27], vm := .none },
  { cls := 10, slots := #[.int 28], vm := .none },
  { cls := 10, slots := #[.int 29], vm := .none },
  { cls := 10, slots := #[.int 30], vm := .none },
  { cls := 10, slots := #[.int 31], vm := .none },
  { cls := 10, slots := #[.int 32], vm := .none },
  { cls := 10, slots := #[.int 33], vm := .none },
  { cls := 10, slots := #[.int 34], vm := .none },
  { cls := 10, slots := #[.int 35], vm := .none },
  { cls := 10, slots := #[.int 36], vm := .none },
  { cls := 10, slots := #[.int 37], vm := .none },
  { cls := 10, slots := #[.int 38], vm := .none },
  { cls := 10, slots := #[.int 39], vm := .none },
  { cls := 10, slots := #[.int 40], vm := .none },
  { cls := 10, slots := #[.int 41], vm := .none },
  { cls := 10, slots := #[.int 42], vm := .none },
  { cls := 10, slots := #[.int 43], vm := .none },
  { cls := 10, slots := #[.int 44], vm := .none },
  { cls := 10, slots := #[.int 45], vm := .none },
  { cls := 10, slots := #[.int 46], vm := .none },
  { cls := 10, slots := #[.int 47], vm := .none },
  { cls := 10, slots := #[.int 48], vm := .none },
  { cls := 10, slots := #[.int 49], vm := .none },
  { cls := 10, slots := #[.int 50], vm := .none },
  { cls := 10, slots := #[.int 51], vm := .none },
  { cls := 10, slots := #[.int 52], vm := .none },
  { cls := 10, slots := #[.int 53], vm := .none },
  { cls := 10, slots := #[.int 54], vm := .none },
  { cls := 10, slots := #[.int 55], vm := .none },
  { cls := 10, slots := #[.int 56], vm := .none },
  { cls := 10, slots := #[.int 57], vm := .none },
  { cls := 10, slots := #[.int 58], vm := .none },
  { cls := 10, slots := #[.int 59], vm := .none },
  { cls := 10, slots := #[.int 60], vm := .none },
  { cls := 10, slots := #[.int 61], vm := .none },
  { cls := 10, slots := #[.int 62], vm := .none },
  { cls := 10, slots := #[.int 63], vm := .none },
  { cls := 10, slots := #[.int 64], vm := .none },
  { cls := 10, slots := #[.int 65], vm := .none },
  { cls := 10, slots := #[.int 66], vm := .none },
  { cls := 10, slots := #[.int 67], vm := .none },
  { cls := 10, slots := #[.int 68], vm := .none },
  { cls := 10, slots := #[.int 69], vm := .none },
  { cls := 10, slots := #[.int 70], vm := .none },
  { cls := 10, slots := #[.int 71], vm := .none },
  { cls := 10, slots := #[.int 72], vm := .none },
  { cls := 10, slots := #[.int 73], vm := .none },
  { cls := 10, slots := #[.int 74], vm := .none },
  { cls := 10, slots := #[.int 75], vm := .none },
  { cls := 10, slots := #[.int 76], vm := .none },
  { cls := 10, slots := #[.int 77], vm := .none },
  { cls := 10, slots := #[.int 78], vm := .none },
  { cls := 10, slots := #[.int 79], vm := .none },
  { cls := 10, slots := #[.int 80], vm := .none },
  { cls := 10, slots := #[.int 81], vm := .none },
  { cls := 10, slots := #[.int 82], vm := .none },
  { cls := 10, slots := #[.int 83], vm := .none },
  { cls := 10, slots := #[.int 84], vm := .none },
  { cls := 10, slots := #[.int 85], vm := .none },
  { cls := 10, slots := #[.int 86], vm := .none },
  { cls := 10, slots := #[.int 87], vm := .none },
  { cls := 10, slots := #[.int 88], vm := .none },
  { cls := 10, slots := #[.int 89], vm := .none },
  { cls := 10, slots := #[.int 90], vm := .none },
  { cls := 10, slots := #[.int 91], vm := .none },
  { cls := 10, slots := #[.int 92], vm := .none },
  { cls := 10, slots := #[.int 93], vm := .none },
  { cls := 10, slots := #[.int 94], vm := .none },
  { cls := 10, slots := #[.int 95], vm := .none },
  { cls := 10, slots := #[.int 96], vm := .none },
  { cls := 10, slots := #[.int 97], vm := .none },
  { cls := 10, slots := #[.int 98], vm := .none },
  { cls := 10, slots := #[.int 99], vm := .none },
  { cls := 10, slots := #[.int 100], vm := .none },
  { cls := 10, slots := #[.int 101], vm := .none },
  { cls := 10, slots := #[.int 102], vm := .none },
  { cls := 10, slots := #[.int 103], vm := .none },
  { cls := 10, slots := #[.int 104], vm := .none },
  { cls := 10, slots := #[.int 105], vm := .none },
  { cls := 10, slots := #[.int 106], vm := .none },
  { cls := 10, slots := #[.int 107], vm := .none },
  { cls := 10, slots := #[.int 108], vm := .none },
  { cls := 10, slots := #[.int 109], vm := .none },
  { cls := 10, slots := #[.int 110], vm := .none },
  { cls := 10, slots := #[.int 111], vm := .none },
  { cls := 10, slots := #[.int 112], vm := .none },
  { cls := 10, slots := #[.int 113], vm := .none },
  { cls := 10, slots := #[.int 114], vm := .none },
  { cls := 10, slots := #[.int 115], vm := .none },
  { cls := 10, slots := #[.int 116], vm := .none },
  { cls := 10, slots := #[.int 117], vm := .none },
  { cls := 10, slots := #[.int 118], vm := .none },
  { cls := 10, slots := #[.int 119], vm := .none },
  { cls := 10, slots := #[.int 120], vm := .none },
  { cls := 10, slots := #[.int 121], vm := .none },
  { cls := 10, slots := #[.int 122], vm := .none },
  { cls := 10, slots := #[.int 123], vm := .none },
  { cls := 10, slots := #[.int 124], vm := .none },
  { cls := 10, slots := #[.int 125], vm := .none },
  { cls := 10, slots := #[.int 126], vm := .none },
  { cls := 10, slots := #[.int 127], vm := .none }]
def classes : Array Class := #[k0, k1, k2, k3, k4, k5, k6, k7, k8, k9, k10, k11, k12, k13, k14, k15, k16, k17]
def interned : List (Array UInt16 × Addr) := []
def slotsUsed : Nat := 517
def theMethod : MethodId := ⟨1, 1⟩
def args0 : Array Value := #[.int 5, .int 300, .int 7]
def aboutOver (below : List Frame) : State where
  vm := { classes := classes, interned := interned.toArray }
  heap := heap
  slotsUsed := slotsUsed
  threads := #[{ frames := .invoking theMethod args0 :: below }]
def below0 : List Frame := [.native { method := ⟨0, 0⟩, args := #[] }]
def about1 : State := aboutOver below0
def p0 : Program := .bare "" "" ""
def e0 : Env := launch0.env 0 0 0
theorem w_frames : about1.frames = Frame.invoking theMethod args0 :: below0 := rfl
set_option maxRecDepth 65536 in
theorem w_args : argsFit about1.vm theMethod args0 = true := by decide +kernel
set_option maxRecDepth 65536 in
theorem w_heap : heapFits about1 = true := by decide +kernel
set_option maxRecDepth 65536 in
theorem w_runnable : about1.curStatus? = some .runnable := by decide +kernel
set_option maxRecDepth 65536 in
theorem w_alone : about1.alone = true := by decide +kernel
set_option maxRecDepth 65536 in
theorem w_named : about1.methodNamed? x = some theMethod := by decide +kernel
set_option maxRecDepth 65536 in
theorem w_hears : about1.hears theMethod below0 = true := by decide +kernel
set_option maxRecDepth 65536 in
theorem w_ripe : about1.ripe theMethod args0 below0 = true := by decide +kernel
theorem w_running : about1.status = .running := rfl
set_option maxRecDepth 65536 in
theorem w_room : about1.hasRoom e0.platform room_1 = true :=
  launch0.hasRoom_least _ room_1 (by decide +kernel) (by decide +kernel) (by decide +kernel) (by decide +kernel) (by decide +kernel) (by decide +kernel)
theorem allAtoms_all (ts : List Jvm.Cond) (a : Array Jvm.Value) (st : Jvm.State) : (allAtoms ts).before a st = ts.all (fun c => c.before a st) := by
  induction ts with
  | nil => rfl
  | cons c t ih =>
    show (Jvm.Cond.and c (allAtoms t)).before a st = _
    rw [Jvm.Cond.before_and, ih, List.all_cons]
def words1 : List Jvm.Cond := Jvm.Cond.code x code maxLocals ret :: tables_1
/-- a 'code' word, met by the world's own term for the bytes: nothing is compared byte by byte -/
theorem code_word {y : MethodName} {bytes : ByteArray} {mx : Nat} {rt : Option FieldType} {a : Array Value} {s : State} {m : MethodId} {meth : Method} {c : Code} (h1 : s.methodNamed? y = some m) (h2 : s.vm.method? m = some meth) (h3 : meth.code = some c) (h4 : c.code = bytes)
    (h5 : (c.maxLocals == mx && c.exceptionTable.isEmpty && decide (c.maxStack ≤ mostOperands) && decide (meth.sig.returnType = rt) && !meth.locks && decide (parseMethodDescriptor y.desc = some meth.sig)) = true) : (Jvm.Cond.code y bytes mx rt).before a s = true := by
  simp only [Bool.and_eq_true, beq_iff_eq, Bool.not_eq_true', decide_eq_true_eq] at h5
  obtain ⟨⟨⟨⟨⟨g1, g2⟩, g3⟩, g4⟩, g5⟩, g6⟩ := h5
  simp [Cond.before, Cond.holds, Cond.value, h1, h2, h3, h4, g1, g2, g3, g4, g5, g6]
def isCode : Jvm.Cond → Bool
  | .code _ _ _ _ => true
  | _ => false
theorem all_split {L : List Jvm.Cond} {P : Jvm.Cond → Bool} (h1 : L.all (fun c => isCode c || P c) = true) (h2 : ∀ c ∈ L.filter isCode, P c = true) : L.all P = true := by
  refine List.all_eq_true.mpr fun c hc => ?_
  have h := List.all_eq_true.mp h1 c hc
  rcases Bool.eq_false_or_eq_true (isCode c) with hi | hi
  · exact h2 c (List.mem_filter.mpr ⟨hc, hi⟩)
  · simpa [hi] using h
set_option maxRecDepth 65536 in
theorem w_c0 : (Jvm.Cond.code x code maxLocals ret).before args0 about1 = true := code_word (m := ⟨1, 1⟩) (meth := k1m1) (c := k1c1) (by decide +kernel) rfl rfl rfl (by decide +kernel)
set_option maxRecDepth 65536 in
theorem w_c1 : (Jvm.Cond.code ({ cls := "com/example/parts_to_policy/partstopolicy/policy/Bdd", name := "<init>", desc := "(I)V" } : Jvm.MethodName) prog_93_method_1_code (2 : Nat) (Option.none : Option Jvm.ClassFile.FieldType)).before args0 about1 = true := code_word (m := ⟨2, 0⟩) (meth := k2m0) (c := k2c0) (by decide +kernel) rfl rfl rfl (by decide +kernel)
set_option maxRecDepth 65536 in
theorem w_c2 : (Jvm.Cond.code ({ cls := "java/lang/Object", name := "<init>", desc := "()V" } : Jvm.MethodName) object_method_1_code (1 : Nat) (Option.none : Option Jvm.ClassFile.FieldType)).before args0 about1 = true := code_word (m := ⟨0, 0⟩) (meth := k0m0) (c := k0c0) (by decide +kernel) rfl rfl rfl (by decide +kernel)
set_option maxRecDepth 65536 in
theorem w_c3 : (Jvm.Cond.code ({ cls := "java/util/Arrays", name := "fill", desc := "([II)V" } : Jvm.MethodName) jdk_65_method_103_code (4 : Nat) (Option.none : Option Jvm.ClassFile.FieldType)).before args0 about1 = true := code_word (m := ⟨3, 1⟩) (meth := k3m1) (c := k3c1) (by decide +kernel) rfl rfl rfl (by decide +kernel)
set_option maxRecDepth 65536 in
theorem w_c4 : (Jvm.Cond.code ({ cls := "com/example/parts_to_policy/partstopolicy/policy/Bdd", name := "clearCache", desc := "(I)V" } : Jvm.MethodName) prog_93_method_14_code (2 : Nat) (Option.none : Option Jvm.ClassFile.FieldType)).before args0 about1 = true := code_word (m := ⟨2, 1⟩) (meth := k2m1) (c := k2c1) (by decide +kernel) rfl rfl rfl (by decide +kernel)
set_option maxRecDepth 65536 in
theorem w_c5 : (Jvm.Cond.code ({ cls := "com/example/parts_to_policy/partstopolicy/policy/PacketSet", name := "<init>", desc := "(Lcom/example/parts_to_policy/partstopolicy/policy/Bdd;I)V" } : Jvm.MethodName) prog_106_method_1_code (3 : Nat) (Option.none : Option Jvm.ClassFile.FieldType)).before args0 about1 = true := code_word (m := ⟨4, 0⟩) (meth := k4m0) (c := k4c0) (by decide +kernel) rfl rfl rfl (by decide +kernel)
set_option maxRecDepth 65536 in
theorem w_c6 : (Jvm.Cond.code ({ cls := "com/example/parts_to_policy/partstopolicy/policy/PacketSet", name := "equals", desc := "(Ljava/lang/Object;)Z" } : Jvm.MethodName) prog_106_method_8_code (3 : Nat) (Option.some Jvm.ClassFile.FieldType.boolean)).before args0 about1 = true := code_word (m := ⟨4, 1⟩) (meth := k4m1) (c := k4c1) (by decide +kernel) rfl rfl rfl (by decide +kernel)
set_option maxRecDepth 65536 in
theorem w_c7 : (Jvm.Cond.code ({ cls := "java/lang/Integer", name := "valueOf", desc := "(I)Ljava/lang/Integer;" } : Jvm.MethodName) jdk_33_method_22_code (1 : Nat) (Option.some (Jvm.ClassFile.FieldType.object "java/lang/Integer"))).before args0 about1 = true := code_word (m := ⟨10, 0⟩) (meth := k10m0) (c := k10c0) (by decide +kernel) rfl rfl rfl (by decide +kernel)
set_option maxRecDepth 65536 in
theorem w_c8 : (Jvm.Cond.code ({ cls := "java/lang/Integer", name := "<init>", desc := "(I)V" } : Jvm.MethodName) jdk_33_method_23_code (2 : Nat) (Option.none : Option Jvm.ClassFile.FieldType)).before args0 about1 = true := code_word (m := ⟨10, 1⟩) (meth := k10m1) (c := k10c1) (by decide +kernel) rfl rfl rfl (by decide +kernel)
set_option maxRecDepth 65536 in
theorem w_c9 : (Jvm.Cond.code ({ cls := "java/lang/Number", name := "<init>", desc := "()V" } : Jvm.MethodName) jdk_18_method_1_code (1 : Nat) (Option.none : Option Jvm.ClassFile.FieldType)).before args0 about1 = true := code_word (m := ⟨6, 0⟩) (meth := k6m0) (c := k6c0) (by decide +kernel) rfl rfl rfl (by decide +kernel)
def codes1 : List Jvm.Cond := [Jvm.Cond.code x code maxLocals ret, Jvm.Cond.code ({ cls := "com/example/parts_to_policy/partstopolicy/policy/Bdd", name := "<init>", desc := "(I)V" } : Jvm.MethodName) prog_93_method_1_code (2 : Nat) (Option.none : Option Jvm.ClassFile.FieldType), Jvm.Cond.code ({ cls := "java/lang/Object", name := "<init>", desc := "()V" } : Jvm.MethodName) object_method_1_code (1 : Nat) (Option.none : Option Jvm.ClassFile.FieldType), Jvm.Cond.code ({ cls := "java/util/Arrays", name := "fill", desc := "([II)V" } : Jvm.MethodName) jdk_65_method_103_code (4 : Nat) (Option.none : Option Jvm.ClassFile.FieldType), Jvm.Cond.code ({ cls := "com/example/parts_to_policy/partstopolicy/policy/Bdd", name := "clearCache", desc := "(I)V" } : Jvm.MethodName) prog_93_method_14_code (2 : Nat) (Option.none : Option Jvm.ClassFile.FieldType), Jvm.Cond.code ({ cls := "com/example/parts_to_policy/partstopolicy/policy/PacketSet", name := "<init>", desc := "(Lcom/example/parts_to_policy/partstopolicy/policy/Bdd;I)V" } : Jvm.MethodName) prog_106_method_1_code (3 : Nat) (Option.none : Option Jvm.ClassFile.FieldType), Jvm.Cond.code ({ cls := "com/example/parts_to_policy/partstopolicy/policy/PacketSet", name := "equals", desc := "(Ljava/lang/Object;)Z" } : Jvm.MethodName) prog_106_method_8_code (3 : Nat) (Option.some Jvm.ClassFile.FieldType.boolean), Jvm.Cond.code ({ cls := "java/lang/Integer", name := "valueOf", desc := "(I)Ljava/lang/Integer;" } : Jvm.MethodName) jdk_33_method_22_code (1 : Nat) (Option.some (Jvm.ClassFile.FieldType.object "java/lang/Integer")), Jvm.Cond.code ({ cls := "java/lang/Integer", name := "<init>", desc := "(I)V" } : Jvm.MethodName) jdk_33_method_23_code (2 : Nat) (Option.none : Option Jvm.ClassFile.FieldType), Jvm.Cond.code ({ cls := "java/lang/Number", name := "<init>", desc := "()V" } : Jvm.MethodName) jdk_18_method_1_code (1 : Nat) (Option.none : Option Jvm.ClassFile.FieldType)]
set_option maxRecDepth 65536 in
theorem codes_eq : words1.filter isCode = codes1 := rfl
theorem w_codes : ∀ c ∈ words1.filter isCode, c.before args0 about1 = true := by
  rw [codes_eq]
  intro c hc
  simp only [codes1, List.mem_cons, List.not_mem_nil, or_false] at hc
  rcases hc with rfl | rfl | rfl | rfl | rfl | rfl | rfl | rfl | rfl | rfl
  · exact w_c0
  · exact w_c1
  · exact w_c2
  · exact w_c3
  · exact w_c4
  · exact w_c5
  · exact w_c6
  · exact w_c7
  · exact w_c8
  · exact w_c9
set_option maxRecDepth 65536 in
theorem w_t1 : (words1.take 24).all (fun c => isCode c || c.before args0 about1) = true := by decide +kernel
set_option maxRecDepth 65536 in
theorem w_t2 : ((words1.drop 24).take 24).all (fun c => isCode c || c.before args0 about1) = true := by decide +kernel
set_option maxRecDepth 65536 in
theorem w_t3 : (((words1.drop 24).drop 24).take 24).all (fun c => isCode c || c.before args0 about1) = true := by decide +kernel
set_option maxRecDepth 65536 in
theorem w_t4 : (((words1.drop 24).drop 24).drop 24).all (fun c => isCode c || c.before args0 about1) = true := by decide +kernel
theorem w_tables : (allAtoms (Jvm.Cond.code x code maxLocals ret :: tables_1)).before args0 about1 = true := by
  rw [allAtoms_all]
  show words1.all (fun c => c.before args0 about1) = true
  refine all_split ?_ w_codes
  rw [← List.take_append_drop 24 words1, List.all_append, w_t1, ← List.take_append_drop 24 (words1.drop 24), List.all_append, w_t2, ← List.take_append_drop 24 ((words1.drop 24).drop 24), List.all_append, w_t3, w_t4]
  rfl
set_option maxRecDepth 65536 in
theorem w_rest : rest_1_c.before args0 about1 = true := by decide +kernel
set_option maxRecDepth 65536 in
theorem w_case : (Jvm.Cond.and given_1 narrow_1).before args0 about1 = true := by decide +kernel
theorem w_applies : (headSpec (Jvm.Cond.code x code maxLocals ret :: tables_1) room_1).applies x e0.platform about1 = true :=
  (Spec.applies_iff w_frames).mpr ⟨w_running, w_runnable, w_alone, w_named, w_hears, w_ripe, w_room, w_tables⟩
theorem atStart : AtStart classFile x code maxLocals ret World_1 tables_1 room_1 Calls_1 rest_1 Pre_1 launch0 p0 e0 about1 theMethod args0 below0 :=
  ⟨lists_1, trivial, launch0.admits_env _ _ _, launch0.least_env, fairChoices_fair.cas, fairChoices_fair.clock, w_frames, w_args, w_heap, w_applies, trivial, w_rest, w_case⟩
end start1
theorem witness_1 : WitnessClaimed_1 := ⟨start1.p0, start1.e0, start1.about1, start1.theMethod, start1.args0, start1.below0, start1.atStart⟩
end Jvm.Pilot.@@N@@
