import JvmDerived
import JvmDerived.Pilot.@@N@@Statement
import JvmDerived.Pilot.@@N@@Code
set_option linter.unusedVariables false
set_option linter.unusedSimpArgs false
namespace Jvm.Pilot.@@N@@
open Jvm Jvm.ClassFile Sem Op Lib Jvm.Free Jvm.Stand Jvm.LawKit Jvm.RoadKit Bundle Jvm.Pilot.@@N@@.Jvm.D
/-! own layer: the walk goes forward; own_G S: from S the body ends as F says -/
def own_G (tb : Tables) (e : Env) (below : List Frame) (F : Outcome → State → Prop) (S : State) : Prop :=
  ∃ s₂ o, Steps tb e below S s₂ ∧ s₂.status = .running ∧ Ended s₂ below o ∧ F o s₂
theorem own_go {tb : Tables} {e : Env} {below : List Frame} {F : Outcome → State → Prop} {A B : State} (st : ∀ t, Steps tb e below B t → Steps tb e below A t) (h : own_G tb e below F B) : own_G tb e below F A := by
  obtain ⟨t, o, h1, h2⟩ := h
  exact ⟨t, o, st t h1, h2⟩
theorem own_tr {tb : Tables} {e : Env} {below : List Frame} {F : Outcome → State → Prop} {A B : State} (st : Steps tb e below A B) (h : own_G tb e below F B) : own_G tb e below F A := own_go (fun _ k => st.trans k) h
theorem own_b {n k : Nat} (h : Nat.ble n k = true) : n ≤ k := Nat.le_of_ble_eq_true h
def own_yes {α : Type} [LT α] : ClassFile.Cond → α → α → Prop
  | .eq, x, y => x = y
  | .ne, x, y => ¬ x = y
  | .lt, x, y => x < y
  | .ge, x, y => ¬ x < y
  | .gt, x, y => y < x
  | .le, x, y => ¬ y < x
def own_no {α : Type} [LT α] : ClassFile.Cond → α → α → Prop
  | .eq, x, y => ¬ x = y
  | .ne, x, y => x = y
  | .lt, x, y => ¬ x < y
  | .ge, x, y => x < y
  | .gt, x, y => ¬ y < x
  | .le, x, y => y < x
theorem own_hy {cd : ClassFile.Cond} {x y : Int32} (h : own_yes cd x y) : if_icmp.holds cd x y = true := by
  cases cd
  · exact (teq h).1
  · exact (feq h).2
  · exact (tlt h).1
  · exact (flt h).2.1
  · exact (tlt h).2.2.1
  · exact (flt h).2.2.2
theorem own_hn {cd : ClassFile.Cond} {x y : Int32} (h : own_no cd x y) : if_icmp.holds cd x y = false := by
  cases cd
  · exact (feq h).1
  · exact (teq h).2
  · exact (flt h).1
  · exact (tlt h).2.1
  · exact (flt h).2.2.1
  · exact (tlt h).2.2.2
theorem own_yn {cd : ClassFile.Cond} {x y : Int32} : own_yes cd x y ∨ own_no cd x y := by
  cases cd
  · exact Classical.em _
  · exact (Classical.em _).symm
  · exact Classical.em _
  · exact (Classical.em _).symm
  · exact Classical.em _
  · exact (Classical.em _).symm
theorem own_ynL {cd : ClassFile.Cond} {x y : Int64} : own_yes cd x y ∨ own_no cd x y := by
  cases cd
  · exact Classical.em _
  · exact (Classical.em _).symm
  · exact Classical.em _
  · exact (Classical.em _).symm
  · exact Classical.em _
  · exact (Classical.em _).symm
theorem own_hyL {cd : ClassFile.Cond} {x y : Int64} (h : own_yes cd x y) : ifCond.holds cd (lcmpW x y) = true := by
  rw [if0]
  refine own_hy ?_
  cases cd
  · exact (lw_eq x y).mpr h
  · exact fun q => h ((lw_eq x y).mp q)
  · exact (lw_lt x y).mpr h
  · exact fun q => h ((lw_lt x y).mp q)
  · exact (lw_gt x y).mpr h
  · exact fun q => h ((lw_gt x y).mp q)
theorem own_hnL {cd : ClassFile.Cond} {x y : Int64} (h : own_no cd x y) : ifCond.holds cd (lcmpW x y) = false := by
  rw [if0]
  refine own_hn ?_
  cases cd
  · exact fun q => h ((lw_eq x y).mp q)
  · exact (lw_eq x y).mpr h
  · exact fun q => h ((lw_lt x y).mp q)
  · exact (lw_lt x y).mpr h
  · exact fun q => h ((lw_gt x y).mp q)
  · exact (lw_gt x y).mpr h
section Own
variable {p : Program} {l : Launch} {e : Env} {R : Room} {s : State} {m : MethodId} {args : Array Value} {below : List Frame} {meth : Method} {c : Code} {T : State} {locs : List Loc} {cells slots : Nat} {F : Outcome → State → Prop}
theorem own_abs {n0 : Nat} (X : Stand p l e R s m args below meth c T locs cells slots) (N : Fr n0 locs) : ∃ L, Stand p l e R s m args below meth c T L cells slots ∧ Fr n0 L := ⟨locs, X, N⟩
theorem own_absC {n0 K K' : Nat} {L Lc : List Loc} {k n : Nat} (X : Stand p l e R s m args below meth c T L k n) (hl : L = locs ++ Lc) (hk : k = K) (hn : n = K') (N : Fr n0 locs) (N' : Fr n0 Lc) : ∃ L, Stand p l e R s m args below meth c T L K K' ∧ Fr n0 L := by
  subst hk hn
  exact ⟨L, X, by rw [hl]; exact Fr.app N N'⟩
theorem own_icmpY (X : Stand p l e R s m args below meth c T locs cells slots) (hx : p.tables.exec = Jvm.exec) {cd : ClassFile.Cond} {x y : Int32} {o : Int} {pc pc' : Nat} {Ls : Array Slot} {rest : List Value} (hd : decode c.code pc = .ok (.if_icmp cd o, 3)) (ho : 0 ≤ (pc : Int) + o) (hp : ((pc : Int) + o).toNat = pc')
    (hc : own_yes cd x y) (h1 : own_G p.tables e below F (T.setTop (mkF m pc' Ls rest))) : own_G p.tables e below F (T.setTop (mkF m pc Ls (.int y :: .int x :: rest))) :=
  own_go (fun _ k => XS.icmpYes X.here hx rfl (pc0 := pc) (pc' := pc') rfl hd rfl (own_hy hc) ho hp k) h1
theorem own_icmpN (X : Stand p l e R s m args below meth c T locs cells slots) (hx : p.tables.exec = Jvm.exec) {cd : ClassFile.Cond} {x y : Int32} {o : Int} {pc pn : Nat} {Ls : Array Slot} {rest : List Value} (hd : decode c.code pc = .ok (.if_icmp cd o, 3)) (hq : pc + 3 = pn)
    (hc : own_no cd x y) (h1 : own_G p.tables e below F (T.setTop (mkF m pn Ls rest))) : own_G p.tables e below F (T.setTop (mkF m pc Ls (.int y :: .int x :: rest))) := by
  subst hq
  exact own_go (fun _ k => XS.icmpNo X.here hx rfl hd rfl (own_hn hc) k) h1
theorem own_icmp (X : Stand p l e R s m args below meth c T locs cells slots) (hx : p.tables.exec = Jvm.exec) {cd : ClassFile.Cond} {x y : Int32} {o : Int} {pc pc' pn : Nat} {Ls : Array Slot} {rest : List Value} (hd : decode c.code pc = .ok (.if_icmp cd o, 3)) (ho : 0 ≤ (pc : Int) + o) (hp : ((pc : Int) + o).toNat = pc') (hq : pc + 3 = pn)
    (h1 : own_yes cd x y → own_G p.tables e below F (T.setTop (mkF m pc' Ls rest))) (h2 : own_no cd x y → own_G p.tables e below F (T.setTop (mkF m pn Ls rest))) : own_G p.tables e below F (T.setTop (mkF m pc Ls (.int y :: .int x :: rest))) :=
  own_yn.elim (fun q => own_icmpY X hx hd ho hp q (h1 q)) (fun q => own_icmpN X hx hd hq q (h2 q))
theorem own_ifY (X : Stand p l e R s m args below meth c T locs cells slots) (hx : p.tables.exec = Jvm.exec) {cd : ClassFile.Cond} {x : Int32} {o : Int} {pc pc' : Nat} {Ls : Array Slot} {rest : List Value} (hd : decode c.code pc = .ok (.ifCond cd o, 3)) (ho : 0 ≤ (pc : Int) + o) (hp : ((pc : Int) + o).toNat = pc')
    (hc : own_yes cd x 0) (h1 : own_G p.tables e below F (T.setTop (mkF m pc' Ls rest))) : own_G p.tables e below F (T.setTop (mkF m pc Ls (.int x :: rest))) :=
  own_go (fun _ k => XS.ifYes X.here hx rfl (pc0 := pc) (pc' := pc') rfl hd rfl ((if0 cd x).trans (own_hy hc)) ho hp k) h1
theorem own_ifN (X : Stand p l e R s m args below meth c T locs cells slots) (hx : p.tables.exec = Jvm.exec) {cd : ClassFile.Cond} {x : Int32} {o : Int} {pc pn : Nat} {Ls : Array Slot} {rest : List Value} (hd : decode c.code pc = .ok (.ifCond cd o, 3)) (hq : pc + 3 = pn)
    (hc : own_no cd x 0) (h1 : own_G p.tables e below F (T.setTop (mkF m pn Ls rest))) : own_G p.tables e below F (T.setTop (mkF m pc Ls (.int x :: rest))) := by
  subst hq
  exact own_go (fun _ k => XS.ifNo X.here hx rfl hd rfl ((if0 cd x).trans (own_hn hc)) k) h1
theorem own_if (X : Stand p l e R s m args below meth c T locs cells slots) (hx : p.tables.exec = Jvm.exec) {cd : ClassFile.Cond} {x : Int32} {o : Int} {pc pc' pn : Nat} {Ls : Array Slot} {rest : List Value} (hd : decode c.code pc = .ok (.ifCond cd o, 3)) (ho : 0 ≤ (pc : Int) + o) (hp : ((pc : Int) + o).toNat = pc') (hq : pc + 3 = pn)
    (h1 : own_yes cd x 0 → own_G p.tables e below F (T.setTop (mkF m pc' Ls rest))) (h2 : own_no cd x 0 → own_G p.tables e below F (T.setTop (mkF m pn Ls rest))) : own_G p.tables e below F (T.setTop (mkF m pc Ls (.int x :: rest))) :=
  own_yn.elim (fun q => own_ifY X hx hd ho hp q (h1 q)) (fun q => own_ifN X hx hd hq q (h2 q))
theorem own_lifY (X : Stand p l e R s m args below meth c T locs cells slots) (hx : p.tables.exec = Jvm.exec) {cd : ClassFile.Cond} {x y : Int64} {o : Int} {pc pc' : Nat} {Ls : Array Slot} {rest : List Value} (hd : decode c.code pc = .ok (.ifCond cd o, 3)) (ho : 0 ≤ (pc : Int) + o) (hp : ((pc : Int) + o).toNat = pc')
    (hc : own_yes cd x y) (h1 : own_G p.tables e below F (T.setTop (mkF m pc' Ls rest))) : own_G p.tables e below F (T.setTop (mkF m pc Ls (.int (lcmpW x y) :: rest))) :=
  own_go (fun _ k => XS.ifYes X.here hx rfl (pc0 := pc) (pc' := pc') rfl hd rfl (own_hyL hc) ho hp k) h1
theorem own_lifN (X : Stand p l e R s m args below meth c T locs cells slots) (hx : p.tables.exec = Jvm.exec) {cd : ClassFile.Cond} {x y : Int64} {o : Int} {pc pn : Nat} {Ls : Array Slot} {rest : List Value} (hd : decode c.code pc = .ok (.ifCond cd o, 3)) (hq : pc + 3 = pn)
    (hc : own_no cd x y) (h1 : own_G p.tables e below F (T.setTop (mkF m pn Ls rest))) : own_G p.tables e below F (T.setTop (mkF m pc Ls (.int (lcmpW x y) :: rest))) := by
  subst hq
  exact own_go (fun _ k => XS.ifNo X.here hx rfl hd rfl (own_hnL hc) k) h1
theorem own_lif (X : Stand p l e R s m args below meth c T locs cells slots) (hx : p.tables.exec = Jvm.exec) {cd : ClassFile.Cond} {x y : Int64} {o : Int} {pc pc' pn : Nat} {Ls : Array Slot} {rest : List Value} (hd : decode c.code pc = .ok (.ifCond cd o, 3)) (ho : 0 ≤ (pc : Int) + o) (hp : ((pc : Int) + o).toNat = pc') (hq : pc + 3 = pn)
    (h1 : own_yes cd x y → own_G p.tables e below F (T.setTop (mkF m pc' Ls rest))) (h2 : own_no cd x y → own_G p.tables e below F (T.setTop (mkF m pn Ls rest))) : own_G p.tables e below F (T.setTop (mkF m pc Ls (.int (lcmpW x y) :: rest))) :=
  own_ynL.elim (fun q => own_lifY X hx hd ho hp q (h1 q)) (fun q => own_lifN X hx hd hq q (h2 q))
theorem own_ret (X : Stand p l e R s m args below meth c T locs cells slots) (hx : p.tables.exec = Jvm.exec) (hlk : meth.locks = false) {K N pc : Nat} {Ls : Array Slot} {w : Value} {t : FieldType} {i : Instr} {rest : List Value} {Q : Option Value → Heap → List Loc → Prop} (hret : meth.sig.returnType = some t) (hn : narrow t w = w)
    (hi : (i = .ireturn ∧ (t = .int ∨ t = .boolean ∨ t = .byte ∨ t = .char ∨ t = .short) ∧ ∃ z, w = .int z) ∨ (i = .lreturn ∧ t = .long ∧ ∃ z, w = .long z) ∨ (i = .dreturn ∧ t = .double ∧ ∃ z, w = .double z) ∨ (i = .freturn ∧ t = .float ∧ ∃ z, w = .float z) ∨ (i = .areturn ∧ t.isReference = true ∧ w.isRef = true))
    (hd : decode c.code pc = .ok (i, 1)) (hK : cells ≤ K) (hN : slots ≤ N) (hQ : Q (some w) T.heap locs) :
    own_G p.tables e below (fun o U' => ∃ v L, o = .returned v ∧ Q v U'.heap L ∧ FrameEnd s o U' L K N) (T.setTop (mkF m pc Ls (w :: rest))) := by
  obtain ⟨fs, hr, hrun, hended, hW, hsame⟩ := X.leave (v := some w) (fun h => by rw [hret] at h; cases h) hlk
  exact ⟨_, _, retOut X hx hret hn hi hd hr, hrun, hended, _, _, rfl, hQ, ⟨_, rfl⟩, hW, hsame.mono hK hN⟩
theorem own_retI (X : Stand p l e R s m args below meth c T locs cells slots) (hx : p.tables.exec = Jvm.exec) (hlk : meth.locks = false) {K N pc : Nat} {Ls : Array Slot} {z : Int32} {rest : List Value} {Q : Option Value → Heap → List Loc → Prop} (hret : meth.sig.returnType = some .int)
    (hd : decode c.code pc = .ok (.ireturn, 1)) (hK : cells ≤ K) (hN : slots ≤ N) (hQ : Q (some (.int z)) T.heap locs) :
    own_G p.tables e below (fun o U' => ∃ v L, o = .returned v ∧ Q v U'.heap L ∧ FrameEnd s o U' L K N) (T.setTop (mkF m pc Ls (.int z :: rest))) :=
  own_ret X hx hlk hret rfl (Or.inl ⟨rfl, Or.inl rfl, z, rfl⟩) hd hK hN hQ
theorem own_retZ (X : Stand p l e R s m args below meth c T locs cells slots) (hx : p.tables.exec = Jvm.exec) (hlk : meth.locks = false) {K N pc : Nat} {Ls : Array Slot} {z : Int32} {rest : List Value} {Q : Option Value → Heap → List Loc → Prop} (hret : meth.sig.returnType = some .boolean)
    (hd : decode c.code pc = .ok (.ireturn, 1)) (hz : z = 0 ∨ z = 1) (hK : cells ≤ K) (hN : slots ≤ N) (hQ : Q (some (.int z)) T.heap locs) :
    own_G p.tables e below (fun o U' => ∃ v L, o = .returned v ∧ Q v U'.heap L ∧ FrameEnd s o U' L K N) (T.setTop (mkF m pc Ls (.int z :: rest))) :=
  own_ret X hx hlk hret (by rcases hz with rfl | rfl <;> rfl) (Or.inl ⟨rfl, Or.inr (Or.inl rfl), z, rfl⟩) hd hK hN hQ
theorem own_retL (X : Stand p l e R s m args below meth c T locs cells slots) (hx : p.tables.exec = Jvm.exec) (hlk : meth.locks = false) {K N pc : Nat} {Ls : Array Slot} {z : Int64} {rest : List Value} {Q : Option Value → Heap → List Loc → Prop} (hret : meth.sig.returnType = some .long)
    (hd : decode c.code pc = .ok (.lreturn, 1)) (hK : cells ≤ K) (hN : slots ≤ N) (hQ : Q (some (.long z)) T.heap locs) :
    own_G p.tables e below (fun o U' => ∃ v L, o = .returned v ∧ Q v U'.heap L ∧ FrameEnd s o U' L K N) (T.setTop (mkF m pc Ls (.long z :: rest))) :=
  own_ret X hx hlk hret rfl (Or.inr (Or.inl ⟨rfl, rfl, z, rfl⟩)) hd hK hN hQ
theorem own_retA (X : Stand p l e R s m args below meth c T locs cells slots) (hx : p.tables.exec = Jvm.exec) (hlk : meth.locks = false) {K N pc : Nat} {Ls : Array Slot} {w : Value} {t : FieldType} {rest : List Value} {Q : Option Value → Heap → List Loc → Prop} (hret : meth.sig.returnType = some t) (ht : t.isReference = true) (hw : w.isRef = true)
    (hd : decode c.code pc = .ok (.areturn, 1)) (hK : cells ≤ K) (hN : slots ≤ N) (hQ : Q (some w) T.heap locs) :
    own_G p.tables e below (fun o U' => ∃ v L, o = .returned v ∧ Q v U'.heap L ∧ FrameEnd s o U' L K N) (T.setTop (mkF m pc Ls (w :: rest))) :=
  own_ret X hx hlk hret (by cases t <;> first | (cases ht; done) | (rcases ref_cases hw with rfl | ⟨z, rfl⟩ <;> rfl)) (Or.inr (Or.inr (Or.inr (Or.inr ⟨rfl, ht, hw⟩)))) hd hK hN hQ
theorem own_retV (X : Stand p l e R s m args below meth c T locs cells slots) (hx : p.tables.exec = Jvm.exec) (hlk : meth.locks = false) {K N pc : Nat} {Ls : Array Slot} {Q : Option Value → Heap → List Loc → Prop} (hret : meth.sig.returnType = none)
    (hd : decode c.code pc = .ok (.return_, 1)) (hK : cells ≤ K) (hN : slots ≤ N) (hQ : Q none T.heap locs) :
    own_G p.tables e below (fun o U' => ∃ v L, o = .returned v ∧ Q v U'.heap L ∧ FrameEnd s o U' L K N) (T.setTop (mkF m pc Ls [])) := by
  obtain ⟨fs, hr, hrun, hended, hW, hsame⟩ := X.leave (v := none) (fun _ => rfl) hlk
  exact ⟨_, _, X.returnOut hx hret hd hr, hrun, hended, _, _, rfl, hQ, ⟨_, rfl⟩, hW, hsame.mono hK hN⟩
theorem own_acmpVE (X : Stand p l e R s m args below meth c T locs cells slots) (hx : p.tables.exec = Jvm.exec) {cd : ACond} {x y : Value} (h1 : x.isRef = true) (h2 : y.isRef = true) {o : Int} {pc pc' : Nat} {Ls : Array Slot} {rest : List Value} (hd : decode c.code pc = .ok (.if_acmp cd o, 3)) (ho : 0 ≤ (pc : Int) + o) (hp : pc' = if acV cd true = true then ((pc : Int) + o).toNat else pc + 3)
    (hc : x = y) (k : own_G p.tables e below F (T.setTop (mkF m pc' Ls rest))) : own_G p.tables e below F (T.setTop (mkF m pc Ls (y :: x :: rest))) :=
  own_go (fun _ q => RoadKit.acmp X hx rfl h1 h2 (pc0 := pc) (pc' := pc') (same := true) rfl hd rfl (by simp [hc]) ho hp q) k
theorem own_acmpVD (X : Stand p l e R s m args below meth c T locs cells slots) (hx : p.tables.exec = Jvm.exec) {cd : ACond} {x y : Value} (h1 : x.isRef = true) (h2 : y.isRef = true) {o : Int} {pc pc' : Nat} {Ls : Array Slot} {rest : List Value} (hd : decode c.code pc = .ok (.if_acmp cd o, 3)) (ho : 0 ≤ (pc : Int) + o) (hp : pc' = if acV cd false = true then ((pc : Int) + o).toNat else pc + 3)
    (hc : ¬ x = y) (k : own_G p.tables e below F (T.setTop (mkF m pc' Ls rest))) : own_G p.tables e below F (T.setTop (mkF m pc Ls (y :: x :: rest))) :=
  own_go (fun _ q => RoadKit.acmp X hx rfl h1 h2 (pc0 := pc) (pc' := pc') (same := false) rfl hd rfl (by simp [hc]) ho hp q) k
theorem own_acmpAE (X : Stand p l e R s m args below meth c T locs cells slots) (hx : p.tables.exec = Jvm.exec) {cd : ACond} {x y : Addr} {o : Int} {pc pc' : Nat} {Ls : Array Slot} {rest : List Value} (hd : decode c.code pc = .ok (.if_acmp cd o, 3)) (ho : 0 ≤ (pc : Int) + o) (hp : pc' = if acV cd true = true then ((pc : Int) + o).toNat else pc + 3)
    (hc : x = y) (k : own_G p.tables e below F (T.setTop (mkF m pc' Ls rest))) : own_G p.tables e below F (T.setTop (mkF m pc Ls (.ref y :: .ref x :: rest))) :=
  own_acmpVE X hx rfl rfl hd ho hp (by rw [hc]) k
theorem own_acmpAD (X : Stand p l e R s m args below meth c T locs cells slots) (hx : p.tables.exec = Jvm.exec) {cd : ACond} {x y : Addr} {o : Int} {pc pc' : Nat} {Ls : Array Slot} {rest : List Value} (hd : decode c.code pc = .ok (.if_acmp cd o, 3)) (ho : 0 ≤ (pc : Int) + o) (hp : pc' = if acV cd false = true then ((pc : Int) + o).toNat else pc + 3)
    (hc : ¬ x = y) (k : own_G p.tables e below F (T.setTop (mkF m pc' Ls rest))) : own_G p.tables e below F (T.setTop (mkF m pc Ls (.ref y :: .ref x :: rest))) :=
  own_acmpVD X hx rfl rfl hd ho hp (fun q => hc (by cases q; rfl)) k
end Own
theorem own_cat1 {v : Value} (h : v.isRef = true) : v.category = 1 := by cases v <;> first | (cases h; done) | rfl
theorem own_sta_keep {Z : State} {h h' : Heap} {C n d : String} {v : Value} {ws : List Addr} (F : Sta Z h C n d v) (K : Keep h h' ws) (q : ∀ x ∈ ws, ∀ c : Cell, h[x]? = some c → c.vm.isStatics = false) : Sta Z h' C n d v := by
  obtain ⟨cf, i, k, f, st, cell, h1, h2, h3, h4, h5, h6, h7⟩ := F
  exact ⟨cf, i, k, f, st, cell, h1, h2, h3, h4, K.2.1 _ _ h5 (fun z => by rw [q _ z _ h5] at h6; cases h6), h6, h7⟩
theorem own_eqint {t : Term} {n : Int32} {args : Array Value} {s : State} (h : (Jvm.Cond.eq t (Term.int n)).value args s none s [] = some true) : t.eval args s none [] s = some (.int n) := by
  have hb : (Term.int n).eval args s none [] s = some (.int n) := Term.int_eval n
  simp only [Jvm.Cond.value, hb] at h
  cases ht : t.eval args s none [] s with
  | none => simp [ht] at h
  | some v => cases v <;> simp [ht] at h ⊢; exact h
theorem own_iconst {tb : Tables} [Ours tb] {e : Env} {below : List Frame} {T target : State} {m : MethodId} {c : Code} {g : JFrame} {v : Int32} (h : At T m c below) (hx : tb.exec = Jvm.exec) (hg : g.method = m) {i : Int} (hd : decode c.code g.pc = .ok (.iconst i, 1)) (hv : Int32.ofInt i = v)
    (hr : Steps tb e below (T.setTop { g with pc := g.pc + 1, stack := .int v :: g.stack }) target) : Steps tb e below (T.setTop g) target := by
  subst hv
  exact XS.iconst h hx hg hd hr
theorem own_bipush {tb : Tables} [Ours tb] {e : Env} {below : List Frame} {T target : State} {m : MethodId} {c : Code} {g : JFrame} {v : Int32} (h : At T m c below) (hx : tb.exec = Jvm.exec) (hg : g.method = m) {i : Int} (hd : decode c.code g.pc = .ok (.bipush i, 2)) (hv : (Int8.ofInt i).toInt32 = v)
    (hr : Steps tb e below (T.setTop { g with pc := g.pc + 2, stack := .int v :: g.stack }) target) : Steps tb e below (T.setTop g) target := by
  subst hv
  exact XS.bipush h hx hg hd hr
theorem own_sipush {tb : Tables} [Ours tb] {e : Env} {below : List Frame} {T target : State} {m : MethodId} {c : Code} {g : JFrame} {v : Int32} (h : At T m c below) (hx : tb.exec = Jvm.exec) (hg : g.method = m) {i : Int} (hd : decode c.code g.pc = .ok (.sipush i, 3)) (hv : (Int16.ofInt i).toInt32 = v)
    (hr : Steps tb e below (T.setTop { g with pc := g.pc + 3, stack := .int v :: g.stack }) target) : Steps tb e below (T.setTop g) target := by
  subst hv
  exact XS.sipush h hx hg hd hr
/-! own layer: arrays by their whole list of values -/
def own_Ar (Z : State) (h : Heap) (a : Addr) (ty : FieldType) (L : List Value) : Prop := ∃ c : Cell, Arr Z h a c ty ∧ c.slots.toList = L
theorem own_lenL {L : List Value} {n : Nat} {z : Int32} (h : L.length = n) (h2 : n.toInt32 = z) : L.length.toInt32 = z := by rw [h]; exact h2
section OwnArr
variable {Z : State} {h h' : Heap} {a b : Addr} {ty : FieldType} {L : List Value}
theorem own_Ar_new {cA : ClassId} {n : Int32} {N : Nat} (A : Arr Z h a (newA cA ty n) ty) (hN : n.toNatClampNeg = N) (hL : List.replicate N (defaultValue ty) = L) : own_Ar Z h a ty L := ⟨_, A, by rw [← hL, ← hN]; simp [newA]⟩
theorem own_Ar_ext (F : own_Ar Z h a ty L) (E : Ext h h') : own_Ar Z h' a ty L := by obtain ⟨c, A, r⟩ := F; exact ⟨c, A.ext E, r⟩
theorem own_Ar_other {sl : Nat} {v : Value} (F : own_Ar Z h b ty L) (W : Wr h h' a sl v) (q : b ≠ a) : own_Ar Z h' b ty L := by obtain ⟨c, A, r⟩ := F; exact ⟨c, A.other W q, r⟩
theorem own_Ar_keep {ws : List Addr} (F : own_Ar Z h a ty L) (K : Keep h h' ws) (q : a ∉ ws) : own_Ar Z h' a ty L := by obtain ⟨c, A, r⟩ := F; exact ⟨c, ⟨K.2.1 a c A.1 q, A.2⟩, r⟩
theorem own_Ar_lt (F : own_Ar Z h a ty L) : a < h.size := by obtain ⟨c, A, -⟩ := F; exact A.lt
theorem own_Ar_same {i : Nat} {v : Value} {L' : List Value} (F : own_Ar Z h a ty L) (W : Wr h h' a i v) (hL : L.set i v = L') : own_Ar Z h' a ty L' := by
  obtain ⟨c, A, r⟩ := F
  refine ⟨_, A.same W, ?_⟩
  rw [← hL, ← r]
  simp [Cell.setSlot]
theorem own_Ar_ne {C : String} {k : Nat} {a0 : Array Value} (E : Exa Z h b C) (wi : (Jvm.Cond.instantiable C k).before a0 Z = true) (F : own_Ar Z h a ty L) : b ≠ a := by obtain ⟨c, A, -⟩ := F; exact ne_arr E wi A
theorem own_in_of {c : Cell} {j : Int32} (r : c.slots.toList = L) (hj : ¬ j < 0) (hl : j.toNatClampNeg < L.length) : ¬ (j < 0 ∨ c.slots.size ≤ j.toNatClampNeg) := by
  have e : c.slots.size = L.length := by rw [← r]; simp
  rw [e]
  exact fun q => q.elim hj (fun z => absurd hl (Nat.not_lt.mpr z))
theorem own_at_of {c : Cell} {i : Nat} {v : Value} (r : c.slots.toList = L) (hv : L[i]? = some v) : c.slots[i]? = some v := by
  rw [← hv, ← r]; simp
theorem own_lt_of {i : Nat} {v : Value} (hv : L[i]? = some v) : i < L.length := (List.getElem?_eq_some_iff.mp hv).1
variable {p : Program} {l : Launch} {e : Env} {R : Room} {s : State} {m : MethodId} {args : Array Value} {below : List Frame} {meth : Method} {c : Code} {T : State} {locs : List Loc} {cells slots : Nat}
theorem own_stI (X : Stand p l e R s m args below meth c T locs cells slots) (hx : p.tables.exec = Jvm.exec) (hZ : Z.Warmed39 s.vm) (eT : T.heap = h) (F : own_Ar Z h a .int L) {j x : Int32} {i : Nat} (hi : j.toNatClampNeg = i) (hj : ¬ j < 0) (hl : i < L.length) {L' : List Value} (hL : L.set i (.int x) = L')
    {g : JFrame} (hg : g.method = m) {rest : List Value} (hs : g.stack = .int x :: .int j :: .ref a :: rest) (hd : decode c.code g.pc = .ok (.iastore, 1)) :
    ∃ T' h', Stand p l e R s m args below meth c T' (locs ++ [⟨a, i⟩]) cells slots ∧ T'.heap = h' ∧ Wr h h' a i (.int x) ∧ own_Ar Z h' a .int L' ∧ ∀ target, Steps p.tables e below (T'.setTop { g with pc := g.pc + 1, stack := rest }) target → Steps p.tables e below (T.setTop g) target := by
  subst hi
  obtain ⟨cl, A, r⟩ := F
  obtain ⟨T', h', X', e', W, st⟩ := stI X hx hZ eT A (own_in_of r hj hl) hg hs hd
  exact ⟨T', h', X', e', W, own_Ar_same ⟨cl, A, r⟩ W hL, st⟩
theorem own_ldI (X : Stand p l e R s m args below meth c T locs cells slots) (hx : p.tables.exec = Jvm.exec) (hZ : Z.Warmed39 s.vm) (eT : T.heap = h) (F : own_Ar Z h a .int L) {j : Int32} {v : Value} (hj : ¬ j < 0) (hv : L[j.toNatClampNeg]? = some v)
    {g : JFrame} (hg : g.method = m) {rest : List Value} (hs : g.stack = .int j :: .ref a :: rest) (hd : decode c.code g.pc = .ok (.iaload, 1)) :
    ∀ target, Steps p.tables e below (T.setTop { g with pc := g.pc + 1, stack := v :: rest }) target → Steps p.tables e below (T.setTop g) target := by
  obtain ⟨cl, A, r⟩ := F
  exact X.iaload hx (by rw [eT]; exact A.1) (State.isArrayOf_alike hZ.alike A.2.1) A.2.2 (own_in_of r hj (own_lt_of hv)) (own_at_of r hv) hg hs hd
theorem own_ldB (X : Stand p l e R s m args below meth c T locs cells slots) (hx : p.tables.exec = Jvm.exec) (hZ : Z.Warmed39 s.vm) (eT : T.heap = h) (F : own_Ar Z h a .byte L) {j : Int32} {v : Value} (hj : ¬ j < 0) (hv : L[j.toNatClampNeg]? = some v)
    {g : JFrame} (hg : g.method = m) {rest : List Value} (hs : g.stack = .int j :: .ref a :: rest) (hd : decode c.code g.pc = .ok (.baload, 1)) :
    ∀ target, Steps p.tables e below (T.setTop { g with pc := g.pc + 1, stack := v :: rest }) target → Steps p.tables e below (T.setTop g) target := by
  obtain ⟨cl, A, r⟩ := F
  exact X.baloadBytes hx (by rw [eT]; exact A.1) (State.isArrayOf_alike hZ.alike A.2.1) A.2.2 (own_in_of r hj (own_lt_of hv)) (own_at_of r hv) hg hs hd
theorem own_ldR (X : Stand p l e R s m args below meth c T locs cells slots) (hx : p.tables.exec = Jvm.exec) (hZ : Z.Warmed39 s.vm) (eT : T.heap = h) (F : own_Ar Z h a ty L) (hty : ty.isReference = true) {j : Int32} {v : Value} (hj : ¬ j < 0) (hv : L[j.toNatClampNeg]? = some v)
    {g : JFrame} (hg : g.method = m) {rest : List Value} (hs : g.stack = .int j :: .ref a :: rest) (hd : decode c.code g.pc = .ok (.aaload, 1)) :
    ∀ target, Steps p.tables e below (T.setTop { g with pc := g.pc + 1, stack := v :: rest }) target → Steps p.tables e below (T.setTop g) target := by
  obtain ⟨cl, A, r⟩ := F
  exact X.aaload hx (by rw [eT]; exact A.1) (State.isArrayOf_alike hZ.alike A.2.1) hty A.2.2 (own_in_of r hj (own_lt_of hv)) (own_at_of r hv) hg hs hd
theorem own_alen (X : Stand p l e R s m args below meth c T locs cells slots) (hx : p.tables.exec = Jvm.exec) (hZ : Z.Warmed39 s.vm) (eT : T.heap = h) (F : own_Ar Z h a ty L) {n : Int32} (hn : L.length.toInt32 = n)
    {g : JFrame} (hg : g.method = m) {rest : List Value} (hs : g.stack = .ref a :: rest) (hd : decode c.code g.pc = .ok (.arraylength, 1)) :
    ∀ target, Steps p.tables e below (T.setTop { g with pc := g.pc + 1, stack := .int n :: rest }) target → Steps p.tables e below (T.setTop g) target := by
  obtain ⟨cl, A, r⟩ := F
  have q : cl.slots.size.toInt32 = n := by rw [← hn, ← r]; simp
  rw [← q]
  exact fun t k => X.arraylength hx (by rw [eT]; exact A.1) (State.isArrayOf_alike hZ.alike A.2.1) hg hs hd t k
end OwnArr
/-! own layer: arrays of references -/
def own_Ao (Z : State) (h : Heap) (a : Addr) (C : String) (L : List Value) : Prop := ∃ c : Cell, Arr Z h a c (.object C) ∧ Ovr Z c.cls C ∧ c.slots.toList = L
section OwnArrO
variable {Z : State} {h h' : Heap} {a b : Addr} {C : String} {L : List Value}
theorem own_Ao_new {cA : ClassId} {n : Int32} (A : Arr Z h a (newA cA (.object C) n) (.object C)) (O : Ovr Z cA C) : own_Ao Z h a C (List.replicate n.toNatClampNeg .null) := ⟨_, A, O, by simp [newA, defaultValue]⟩
theorem own_Ao_ar (F : own_Ao Z h a C L) : own_Ar Z h a (.object C) L := by obtain ⟨c, A, -, r⟩ := F; exact ⟨c, A, r⟩
theorem own_Ao_ext (F : own_Ao Z h a C L) (E : Ext h h') : own_Ao Z h' a C L := by obtain ⟨c, A, r⟩ := F; exact ⟨c, A.ext E, r⟩
theorem own_Ao_other {sl : Nat} {v : Value} (F : own_Ao Z h b C L) (W : Wr h h' a sl v) (q : b ≠ a) : own_Ao Z h' b C L := by obtain ⟨c, A, r⟩ := F; exact ⟨c, A.other W q, r⟩
theorem own_Ao_keep {ws : List Addr} (F : own_Ao Z h a C L) (K : Keep h h' ws) (q : a ∉ ws) : own_Ao Z h' a C L := by obtain ⟨c, A, r⟩ := F; exact ⟨c, ⟨K.2.1 a c A.1 q, A.2⟩, r⟩
theorem own_Ao_lt (F : own_Ao Z h a C L) : a < h.size := by obtain ⟨c, A, -⟩ := F; exact A.lt
theorem own_Ao_same {i : Nat} {v : Value} (F : own_Ao Z h a C L) (W : Wr h h' a i v) : own_Ao Z h' a C (L.set i v) := by
  obtain ⟨c, A, O, r⟩ := F
  refine ⟨_, A.same W, O, ?_⟩
  rw [← r]
  simp [Cell.setSlot]
variable {p : Program} {l : Launch} {e : Env} {R : Room} {s : State} {m : MethodId} {args : Array Value} {below : List Frame} {meth : Method} {c : Code} {T : State} {locs : List Loc} {cells slots : Nat}
theorem own_stR (X : Stand p l e R s m args below meth c T locs cells slots) (hx : p.tables.exec = Jvm.exec) (hZ : Z.Warmed39 s.vm) (eT : T.heap = h) (F : own_Ao Z h a C L) {j : Int32} {v : Value} (hv : v = .null ∨ ∃ y, v = .ref y ∧ Ins Z h y C true) (hj : ¬ j < 0) (hl : j.toNatClampNeg < L.length)
    {g : JFrame} (hg : g.method = m) {rest : List Value} (hs : g.stack = v :: .int j :: .ref a :: rest) (hd : decode c.code g.pc = .ok (.aastore, 1)) :
    ∃ T' h', Stand p l e R s m args below meth c T' (locs ++ [⟨a, j.toNatClampNeg⟩]) cells slots ∧ T'.heap = h' ∧ Wr h h' a j.toNatClampNeg v ∧ own_Ao Z h' a C (L.set j.toNatClampNeg v) ∧ ∀ target, Steps p.tables e below (T'.setTop { g with pc := g.pc + 1, stack := rest }) target → Steps p.tables e below (T.setTop g) target := by
  obtain ⟨cl, A, O, r⟩ := F
  have S : Sto Z h a v := by
    rcases hv with rfl | ⟨y, rfl, I⟩
    · exact Or.inl rfl
    · exact Sto.of A O I
  obtain ⟨T', h', X', e', W, st⟩ := stR X hx hZ eT A (own_in_of r hj hl) rfl S hg hs hd
  exact ⟨T', h', X', e', W, own_Ao_same ⟨cl, A, O, r⟩ W, st⟩
end OwnArrO
/-! own layer: a bundle of boxed ints -/
def own_Bn (Z : State) (h : Heap) (l : List (Addr × Int32)) : Prop := ∀ x ∈ l, Exa Z h x.1 "java/lang/Integer" ∧ Fld Z h x.1 "java/lang/Integer" "value" "I" (.int x.2)
theorem own_Bn_keep {Z : State} {h h' : Heap} {l : List (Addr × Int32)} {ws : List Addr} (B : own_Bn Z h l) (K : Keep h h' ws) (q : ∀ x ∈ l, x.1 ∉ ws) : own_Bn Z h' l := fun x hx => ⟨(B x hx).1.keep K, (B x hx).2.keep K (q x hx)⟩
theorem own_Bn_exa {Z : State} {h : Heap} {l : List (Addr × Int32)} {a : Addr} {v : Int32} (B : own_Bn Z h l) (q : (a, v) ∈ l) : Exa Z h a "java/lang/Integer" := (B _ q).1
theorem own_Bn_fld {Z : State} {h : Heap} {l : List (Addr × Int32)} {a : Addr} {v : Int32} (B : own_Bn Z h l) (q : (a, v) ∈ l) : Fld Z h a "java/lang/Integer" "value" "I" (.int v) := (B _ q).2
theorem own_Bn_nil (Z : State) (h : Heap) : own_Bn Z h [] := fun _ q => nomatch q
theorem own_Bn_cons {Z : State} {h : Heap} {l : List (Addr × Int32)} {a : Addr} {v : Int32} (E : Exa Z h a "java/lang/Integer") (F : Fld Z h a "java/lang/Integer" "value" "I" (.int v)) (B : own_Bn Z h l) : own_Bn Z h ((a, v) :: l) := fun x hx => by
  rcases List.mem_cons.mp hx with rfl | q
  · exact ⟨E, F⟩
  · exact B x q
theorem own_stB {Z : State} {h : Heap} {a : Addr} {L : List Value} {p : Program} {l : Launch} {e : Env} {R : Room} {s : State} {m : MethodId} {args : Array Value} {below : List Frame} {meth : Method} {c : Code} {T : State} {locs : List Loc} {cells slots : Nat}
    (X : Stand p l e R s m args below meth c T locs cells slots) (hx : p.tables.exec = Jvm.exec) (hZ : Z.Warmed39 s.vm) (eT : T.heap = h) (F : own_Ar Z h a .byte L) {j x : Int32} {i : Nat} (hi : j.toNatClampNeg = i) (hj : ¬ j < 0) (hl : i < L.length) (hn : nar .byte x = x) {L' : List Value} (hL : L.set i (.int x) = L')
    {g : JFrame} (hg : g.method = m) {rest : List Value} (hs : g.stack = .int x :: .int j :: .ref a :: rest) (hd : decode c.code g.pc = .ok (.bastore, 1)) :
    ∃ T' h', Stand p l e R s m args below meth c T' (locs ++ [⟨a, i⟩]) cells slots ∧ T'.heap = h' ∧ Wr h h' a i (.int x) ∧ own_Ar Z h' a .byte L' ∧ ∀ target, Steps p.tables e below (T'.setTop { g with pc := g.pc + 1, stack := rest }) target → Steps p.tables e below (T.setTop g) target := by
  subst hi
  obtain ⟨cl, A, r⟩ := F
  obtain ⟨T', h', X', e', W, st⟩ := stB X hx hZ eT A (own_in_of r hj hl) hg hs hd
  rw [hn] at W
  exact ⟨T', h', X', e', W, own_Ar_same ⟨cl, A, r⟩ W hL, st⟩
theorem own_arv_of {Z : State} {h : Heap} {a : Addr} {ty : FieldType} {L : List Value} {z : Int32} {dv : Value} (F : own_Ar Z h a ty L) (hz : z.toNatClampNeg = L.length) (h0 : ¬ z < 0) (hf : ∀ v ∈ L, fits ty v = true) : ∃ k, Arv Z h a k ty z L dv := by
  obtain ⟨c, A, r⟩ := F
  have hs : c.slots.size = L.length := by rw [← r]; simp
  refine ⟨c.cls, c, A, rfl, by rw [hz, hs], h0, fun i hi => ?_, fun i hi => ?_⟩
  · have hi' : i < L.length := by rw [← hs]; exact hi
    refine own_at_of r ?_
    rw [List.getElem?_eq_getElem hi', List.getD_eq_getElem?_getD, List.getElem?_eq_getElem hi']; rfl
  · have hi' : i < L.length := by rw [← hs]; exact hi
    rw [List.getD_eq_getElem?_getD, List.getElem?_eq_getElem hi']
    exact hf _ (List.getElem_mem hi')
theorem own_ar_of {Z : State} {h : Heap} {a : Addr} {k : ClassId} {ty : FieldType} {L : List Value} {z : Int32} {dv : Value} (F : Arv Z h a k ty z L dv) (hz : z.toNatClampNeg = L.length) : own_Ar Z h a ty L := by
  obtain ⟨c, A, -, hs, -, H, -⟩ := F
  refine ⟨c, A, ?_⟩
  apply List.ext_getElem?
  intro i
  by_cases hi : i < c.slots.size
  · have q := H i hi
    have hi' : i < L.length := by rw [← hz, ← hs]; exact hi
    rw [List.getD_eq_getElem?_getD, List.getElem?_eq_getElem hi'] at q
    rw [List.getElem?_eq_getElem hi', Array.getElem?_toList]
    exact q
  · have h1 : c.slots.toList[i]? = none := by rw [List.getElem?_eq_none_iff]; simpa using hi
    have h2 : L[i]? = none := by rw [List.getElem?_eq_none_iff, ← hz, ← hs]; omega
    rw [h1, h2]
theorem own_ldD {Z : State} {h : Heap} {a : Addr} {L : List Value} {p : Program} {l : Launch} {e : Env} {R : Room} {s : State} {m : MethodId} {args : Array Value} {below : List Frame} {meth : Method} {c : Code} {T : State} {locs : List Loc} {cells slots : Nat}
    (X : Stand p l e R s m args below meth c T locs cells slots) (hx : p.tables.exec = Jvm.exec) (hZ : Z.Warmed39 s.vm) (eT : T.heap = h) (F : own_Ar Z h a .double L) {j : Int32} {v : Value} (hj : ¬ j < 0) (hv : L[j.toNatClampNeg]? = some v)
    {g : JFrame} (hg : g.method = m) {rest : List Value} (hs : g.stack = .int j :: .ref a :: rest) (hd : decode c.code g.pc = .ok (.daload, 1)) :
    ∀ target, Steps p.tables e below (T.setTop { g with pc := g.pc + 1, stack := v :: rest }) target → Steps p.tables e below (T.setTop g) target := by
  obtain ⟨cl, A, r⟩ := F
  exact X.daload hx (by rw [eT]; exact A.1) (State.isArrayOf_alike hZ.alike A.2.1) A.2.2 (own_in_of r hj (own_lt_of hv)) (own_at_of r hv) hg hs hd
theorem own_stD {Z : State} {h : Heap} {a : Addr} {L : List Value} {p : Program} {l : Launch} {e : Env} {R : Room} {s : State} {m : MethodId} {args : Array Value} {below : List Frame} {meth : Method} {c : Code} {T : State} {locs : List Loc} {cells slots : Nat}
    (X : Stand p l e R s m args below meth c T locs cells slots) (hx : p.tables.exec = Jvm.exec) (hZ : Z.Warmed39 s.vm) (eT : T.heap = h) (F : own_Ar Z h a .double L) {j : Int32} {x : UInt64} {i : Nat} (hi : j.toNatClampNeg = i) (hj : ¬ j < 0) (hl : i < L.length) {L' : List Value} (hL : L.set i (.double x) = L')
    {g : JFrame} (hg : g.method = m) {rest : List Value} (hs : g.stack = .double x :: .int j :: .ref a :: rest) (hd : decode c.code g.pc = .ok (.dastore, 1)) :
    ∃ T' h', Stand p l e R s m args below meth c T' (locs ++ [⟨a, i⟩]) cells slots ∧ T'.heap = h' ∧ Wr h h' a i (.double x) ∧ own_Ar Z h' a .double L' ∧ ∀ target, Steps p.tables e below (T'.setTop { g with pc := g.pc + 1, stack := rest }) target → Steps p.tables e below (T.setTop g) target := by
  subst hi
  obtain ⟨cl, A, r⟩ := F
  obtain ⟨T', h', X', e', W, st⟩ := stD X hx hZ eT A (own_in_of r hj hl) hg hs hd
  exact ⟨T', h', X', e', W, own_Ar_same ⟨cl, A, r⟩ W hL, st⟩
theorem own_retD {p : Program} {l : Launch} {e : Env} {R : Room} {s : State} {m : MethodId} {args : Array Value} {below : List Frame} {meth : Method} {c : Code} {T : State} {locs : List Loc} {cells slots : Nat} (X : Stand p l e R s m args below meth c T locs cells slots) (hx : p.tables.exec = Jvm.exec) (hlk : meth.locks = false) {K N pc : Nat} {Ls : Array Slot} {z : UInt64} {rest : List Value} {Q : Option Value → Heap → List Loc → Prop} (hret : meth.sig.returnType = some .double)
    (hd : decode c.code pc = .ok (.dreturn, 1)) (hK : cells ≤ K) (hN : slots ≤ N) (hQ : Q (some (.double z)) T.heap locs) :
    own_G p.tables e below (fun o U' => ∃ v L, o = .returned v ∧ Q v U'.heap L ∧ FrameEnd s o U' L K N) (T.setTop (mkF m pc Ls (.double z :: rest))) :=
  own_ret X hx hlk hret rfl (Or.inr (Or.inr (Or.inl ⟨rfl, rfl, z, rfl⟩))) hd hK hN hQ
theorem own_cast {tb : Tables} {e : Env} {below : List Frame} {F : Outcome → State → Prop} {A B : State} (h : A = B) (k : own_G tb e below F B) : own_G tb e below F A := h ▸ k
def own_c (x y : UInt64) : Int32 := cmpValue (FP.dcmp x y) .l
abbrev own_y1 : MethodName := ⟨"com/example/bindweave/bindweave/select/DominanceDominatesPinLaw", "val", "(II)D"⟩
abbrev own_y2 : MethodName := ⟨"com/example/bindweave/bindweave/select/Dominance", "dominates", "([D[DI)Z"⟩
theorem own_pd1 : parseMethodDescriptor "(II)D" = some ⟨[.int, .int], (some .double)⟩ := by decide +kernel
theorem own_pd2 : parseMethodDescriptor "([D[DI)Z" = some ⟨[(.array .double), (.array .double), .int], (some .boolean)⟩ := by decide +kernel

def own_okk (e i c : Int32) : Int32 := if i < e then (if c = 0 then 1 else 0) else (if c < 0 then 0 else 1)
def own_ss (e i c : Int32) : Int32 := if i < e then 0 else (if 0 < c then 1 else 0)
def own_and (a b c x y z : Int32) : Int32 := if a = 0 then 0 else if b = 0 then 0 else if c = 0 then 0 else if ¬ x = 0 then 1 else if ¬ y = 0 then 1 else if z = 0 then 0 else 1
def own_dom (e c0 c1 c2 : Int32) : Int32 := own_and (own_okk e (0 : Int32) c0) (own_okk e (1 : Int32) c1) (own_okk e (2 : Int32) c2) (own_ss e (0 : Int32) c0) (own_ss e (1 : Int32) c1) (own_ss e (2 : Int32) c2)
theorem own_c4 {p z : Int32} (h : z = (p &&& (3 : Int32))) : z = (0 : Int32) ∨ z = (1 : Int32) ∨ z = (2 : Int32) ∨ z = (3 : Int32) := by
  have m := c_mask p (3 : Int32) 2 (by decide) (by decide)
  rw [← h] at m
  have e0 : (0 : Int32).toInt = 0 := by decide
  have e1 : (1 : Int32).toInt = 1 := by decide
  have e2 : (2 : Int32).toInt = 2 := by decide
  have e3 : (3 : Int32).toInt = 3 := by decide
  rw [← Int32.toInt_inj, ← Int32.toInt_inj, ← Int32.toInt_inj, ← Int32.toInt_inj]
  omega

theorem own_val_d0 : decode method_2_code 0 = .ok (.iload_n 0, 1) := by decide +kernel
theorem own_val_d1 : decode method_2_code 1 = .ok (.iconst 4, 1) := by decide +kernel
theorem own_val_d2 : decode method_2_code 2 = .ok (.iload_n 1, 1) := by decide +kernel
theorem own_val_d3 : decode method_2_code 3 = .ok (.imul, 1) := by decide +kernel
theorem own_val_d4 : decode method_2_code 4 = .ok (.ishr, 1) := by decide +kernel
theorem own_val_d5 : decode method_2_code 5 = .ok (.bipush 7, 2) := by decide +kernel
theorem own_val_d7 : decode method_2_code 7 = .ok (.iand, 1) := by decide +kernel
theorem own_val_d8 : decode method_2_code 8 = .ok (.iconst 3, 1) := by decide +kernel
theorem own_val_d9 : decode method_2_code 9 = .ok (.isub, 1) := by decide +kernel
theorem own_val_d10 : decode method_2_code 10 = .ok (.istore_n 2, 1) := by decide +kernel
theorem own_val_d11 : decode method_2_code 11 = .ok (.iload_n 2, 1) := by decide +kernel
theorem own_val_d12 : decode method_2_code 12 = .ok (.i2d, 1) := by decide +kernel
theorem own_val_d13 : decode method_2_code 13 = .ok (.dstore_n 3, 1) := by decide +kernel
theorem own_val_d14 : decode method_2_code 14 = .ok (.iload_n 2, 1) := by decide +kernel
theorem own_val_d15 : decode method_2_code 15 = .ok (.ifCond .ne 18, 3) := by decide +kernel
theorem own_val_d18 : decode method_2_code 18 = .ok (.iload_n 0, 1) := by decide +kernel
theorem own_val_d19 : decode method_2_code 19 = .ok (.iconst 4, 1) := by decide +kernel
theorem own_val_d20 : decode method_2_code 20 = .ok (.iload_n 1, 1) := by decide +kernel
theorem own_val_d21 : decode method_2_code 21 = .ok (.imul, 1) := by decide +kernel
theorem own_val_d22 : decode method_2_code 22 = .ok (.iconst 3, 1) := by decide +kernel
theorem own_val_d23 : decode method_2_code 23 = .ok (.iadd, 1) := by decide +kernel
theorem own_val_d24 : decode method_2_code 24 = .ok (.ishr, 1) := by decide +kernel
theorem own_val_d25 : decode method_2_code 25 = .ok (.iconst 1, 1) := by decide +kernel
theorem own_val_d26 : decode method_2_code 26 = .ok (.iand, 1) := by decide +kernel
theorem own_val_d27 : decode method_2_code 27 = .ok (.ifCond .eq 6, 3) := by decide +kernel
theorem own_val_d30 : decode method_2_code 30 = .ok (.dload_n 3, 1) := by decide +kernel
theorem own_val_d31 : decode method_2_code 31 = .ok (.dneg, 1) := by decide +kernel
theorem own_val_d32 : decode method_2_code 32 = .ok (.dstore_n 3, 1) := by decide +kernel
theorem own_val_d33 : decode method_2_code 33 = .ok (.dload_n 3, 1) := by decide +kernel
theorem own_val_d34 : decode method_2_code 34 = .ok (.dreturn, 1) := by decide +kernel
theorem own_val_pn : plainName "com/example/bindweave/bindweave/select/DominanceDominatesPinLaw" = true := by first | (simp [plainName, overriddenIn]; done) | decide +kernel
theorem own_val_ef (m : MethodId) (pb : Int32) (pk : Int32) : entryFrame m #[(.int pb), (.int pk)] 5 = mkF m 0 #[iv pb, iv pk, .unset, .unset, .unset] [] := by first | (simp [entryFrame, mkF, argsToLocals, Value.category]; done) | rfl
def own_val_Q (Z : State) (pb : Int32) (pk : Int32) (h0 : Heap) (n0 : Nat) (v : Option Value) (h : Heap) (L : List Loc) : Prop := ∃ d : UInt64, v = some (.double d) ∧ Fr n0 L ∧ h = h0
set_option maxRecDepth 65536 in
set_option maxHeartbeats 40000000 in
theorem own_val (l : Launch) (Z : State) (a0 : Array Value) (hw : ∀ d ∈ tables_1, d.before a0 Z = true) (ws : List Jvm.Cond) (pb : Int32) (pk : Int32) (h0 : Heap) (n0 : Nat) :
    MetFree l own_y1 (head1 (Jvm.Cond.code own_y1 method_2_code 5 (some .double) :: ws) ({ frames := 0, cells := 0, slots := 0, locals := 0 } : Room)) (fun a U => a = #[(.int pb), (.int pk)] ∧ Z.Warmed39 U.vm ∧ U.heap = h0) (fun _ _ _ _ _ => True) (fun _ U o U' => ∃ v L, o = .returned v ∧ (own_val_Q Z pb pk h0 n0) v U'.heap L ∧ FrameEnd U o U' L ({ frames := 0, cells := 0, slots := 0, locals := 0 } : Room).cells ({ frames := 0, cells := 0, slots := 0, locals := 0 } : Room).slots) := by
  refine MetFree.of_bodySF (plainFor_of_name own_val_pn) hisR ?_
  intro p e s m args below meth c s₁ Bd hml0 hP hK
  obtain ⟨rfl, hZ, hh⟩ := hP
  have hx := Bd.exec
  have hby := Bd.bytes
  have hml : c.maxLocals = 5 := hml0
  have hown : s.vm.findClass "com/example/bindweave/bindweave/select/DominanceDominatesPinLaw" = some m.cls := findClass_of_methodNamed Bd.named
  have hnm := (name_of_methodNamed Bd.named Bd.method).1
  have hlk : meth.locks = false := Bd.notSynchronized
  have X0 : Stand p l e ({ frames := 0, cells := 0, slots := 0, locals := 0 } : Room) s m #[(.int pb), (.int pk)] below meth c s₁ [] 0 0 := Stand.of_body Bd
  have e0 : s₁.heap = h0 := by rw [← hh, Bd.state]; rfl
  have N0 := Fr.nil n0
  show own_G p.tables e below (fun o U' => ∃ v L, o = .returned v ∧ (own_val_Q Z pb pk h0 n0) v U'.heap L ∧ FrameEnd s o U' L ({ frames := 0, cells := 0, slots := 0, locals := 0 } : Room).cells ({ frames := 0, cells := 0, slots := 0, locals := 0 } : Room).slots) (s₁.setTop (entryFrame m #[(.int pb), (.int pk)] 5))
  refine own_go (B := s₁.setTop (mkF m 0 #[iv pb, iv pk, .unset, .unset, .unset] [])) (fun t k => castTop (own_val_ef m pb pk) k) ?_
  refine own_go (B := (s₁.setTop (mkF m 1 #[iv pb, iv pk, .unset, .unset, .unset] [(.int pb)]))) (fun t k => XS.iloadN X0.here hx rfl (hb hby own_val_d0) rfl k) ?_
  refine own_go (B := (s₁.setTop (mkF m 2 #[iv pb, iv pk, .unset, .unset, .unset] [(.int (4 : Int32)), (.int pb)]))) (fun t k => own_iconst (v := (4 : Int32)) X0.here hx rfl (hb hby own_val_d1) (by decide) k) ?_
  refine own_go (B := (s₁.setTop (mkF m 3 #[iv pb, iv pk, .unset, .unset, .unset] [(.int pk), (.int (4 : Int32)), (.int pb)]))) (fun t k => XS.iloadN X0.here hx rfl (hb hby own_val_d2) rfl k) ?_
  refine own_go (B := (s₁.setTop (mkF m 4 #[iv pb, iv pk, .unset, .unset, .unset] [(.int ((4 : Int32) * pk)), (.int pb)]))) (fun t k => XS.imul (x := (4 : Int32)) (y := pk) X0.here hx rfl (hb hby own_val_d3) rfl k) ?_
  refine own_go (B := (s₁.setTop (mkF m 5 #[iv pb, iv pk, .unset, .unset, .unset] [(.int (pb >>> (((4 : Int32) * pk) &&& 31)))]))) (fun t k => XS.ishr (x := pb) (y := ((4 : Int32) * pk)) X0.here hx rfl (hb hby own_val_d4) rfl k) ?_
  refine own_go (B := (s₁.setTop (mkF m 7 #[iv pb, iv pk, .unset, .unset, .unset] [(.int (7 : Int32)), (.int (pb >>> (((4 : Int32) * pk) &&& 31)))]))) (fun t k => own_bipush (v := (7 : Int32)) X0.here hx rfl (hb hby own_val_d5) (by decide) k) ?_
  refine own_go (B := (s₁.setTop (mkF m 8 #[iv pb, iv pk, .unset, .unset, .unset] [(.int ((pb >>> (((4 : Int32) * pk) &&& 31)) &&& (7 : Int32)))]))) (fun t k => XS.iand (x := (pb >>> (((4 : Int32) * pk) &&& 31))) (y := (7 : Int32)) X0.here hx rfl (hb hby own_val_d7) rfl k) ?_
  refine own_go (B := (s₁.setTop (mkF m 9 #[iv pb, iv pk, .unset, .unset, .unset] [(.int (3 : Int32)), (.int ((pb >>> (((4 : Int32) * pk) &&& 31)) &&& (7 : Int32)))]))) (fun t k => own_iconst (v := (3 : Int32)) X0.here hx rfl (hb hby own_val_d8) (by decide) k) ?_
  refine own_go (B := (s₁.setTop (mkF m 10 #[iv pb, iv pk, .unset, .unset, .unset] [(.int (((pb >>> (((4 : Int32) * pk) &&& 31)) &&& (7 : Int32)) - (3 : Int32)))]))) (fun t k => XS.isub (x := ((pb >>> (((4 : Int32) * pk) &&& 31)) &&& (7 : Int32))) (y := (3 : Int32)) X0.here hx rfl (hb hby own_val_d9) rfl k) ?_
  obtain ⟨z10, hz10⟩ : ∃ z : Int32, z = (((pb >>> (((4 : Int32) * pk) &&& 31)) &&& (7 : Int32)) - (3 : Int32)) := ⟨_, rfl⟩
  rw [← hz10]
  refine own_go (B := (s₁.setTop (mkF m 11 #[iv pb, iv pk, iv z10, .unset, .unset] []))) (fun t k => XS.istoreN X0.here hx rfl (hb hby own_val_d10) rfl (l' := #[iv pb, iv pk, iv z10, .unset, .unset]) rfl k) ?_
  refine own_go (B := (s₁.setTop (mkF m 12 #[iv pb, iv pk, iv z10, .unset, .unset] [(.int z10)]))) (fun t k => XS.iloadN X0.here hx rfl (hb hby own_val_d11) rfl k) ?_
  refine own_go (B := (s₁.setTop (mkF m 13 #[iv pb, iv pk, iv z10, .unset, .unset] [(.double (FP.i2d z10))]))) (fun t k => XS.i2dS (x := z10) (v := (FP.i2d z10)) X0.here hx rfl (hb hby own_val_d12) rfl rfl k) ?_
  obtain ⟨z13, hz13⟩ : ∃ z : UInt64, z = (FP.i2d z10) := ⟨_, rfl⟩
  rw [← hz13]
  refine own_go (B := (s₁.setTop (mkF m 14 #[iv pb, iv pk, iv z10, .val (.double z13), .second] []))) (fun t k => XS.dstoreN X0.here hx rfl (hb hby own_val_d13) rfl (l' := #[iv pb, iv pk, iv z10, .val (.double z13), .second]) rfl k) ?_
  refine own_go (B := (s₁.setTop (mkF m 15 #[iv pb, iv pk, iv z10, .val (.double z13), .second] [(.int z10)]))) (fun t k => XS.iloadN X0.here hx rfl (hb hby own_val_d14) rfl k) ?_
  refine own_if X0 hx (hb hby own_val_d15) (pc' := 33) (pn := 18) (by decide) (by decide) rfl (fun (hc15 : ¬ z10 = (0 : Int32)) => ?_) (fun (hc15 : z10 = (0 : Int32)) => ?_)
  · refine own_go (B := (s₁.setTop (mkF m 34 #[iv pb, iv pk, iv z10, .val (.double z13), .second] [(.double z13)]))) (fun t k => XS.dloadN X0.here hx rfl (hb hby own_val_d33) rfl k) ?_
    exact own_retD X0 hx hlk Bd.returns (hb hby own_val_d34) (own_b rfl) (own_b rfl) (Q := (own_val_Q Z pb pk h0 n0)) ⟨_, rfl, N0, e0⟩
  · refine own_go (B := (s₁.setTop (mkF m 19 #[iv pb, iv pk, iv z10, .val (.double z13), .second] [(.int pb)]))) (fun t k => XS.iloadN X0.here hx rfl (hb hby own_val_d18) rfl k) ?_
    refine own_go (B := (s₁.setTop (mkF m 20 #[iv pb, iv pk, iv z10, .val (.double z13), .second] [(.int (4 : Int32)), (.int pb)]))) (fun t k => own_iconst (v := (4 : Int32)) X0.here hx rfl (hb hby own_val_d19) (by decide) k) ?_
    refine own_go (B := (s₁.setTop (mkF m 21 #[iv pb, iv pk, iv z10, .val (.double z13), .second] [(.int pk), (.int (4 : Int32)), (.int pb)]))) (fun t k => XS.iloadN X0.here hx rfl (hb hby own_val_d20) rfl k) ?_
    refine own_go (B := (s₁.setTop (mkF m 22 #[iv pb, iv pk, iv z10, .val (.double z13), .second] [(.int ((4 : Int32) * pk)), (.int pb)]))) (fun t k => XS.imul (x := (4 : Int32)) (y := pk) X0.here hx rfl (hb hby own_val_d21) rfl k) ?_
    refine own_go (B := (s₁.setTop (mkF m 23 #[iv pb, iv pk, iv z10, .val (.double z13), .second] [(.int (3 : Int32)), (.int ((4 : Int32) * pk)), (.int pb)]))) (fun t k => own_iconst (v := (3 : Int32)) X0.here hx rfl (hb hby own_val_d22) (by decide) k) ?_
    refine own_go (B := (s₁.setTop (mkF m 24 #[iv pb, iv pk, iv z10, .val (.double z13), .second] [(.int (((4 : Int32) * pk) + (3 : Int32))), (.int pb)]))) (fun t k => XS.iadd (x := ((4 : Int32) * pk)) (y := (3 : Int32)) X0.here hx rfl (hb hby own_val_d23) rfl k) ?_
    refine own_go (B := (s₁.setTop (mkF m 25 #[iv pb, iv pk, iv z10, .val (.double z13), .second] [(.int (pb >>> ((((4 : Int32) * pk) + (3 : Int32)) &&& 31)))]))) (fun t k => XS.ishr (x := pb) (y := (((4 : Int32) * pk) + (3 : Int32))) X0.here hx rfl (hb hby own_val_d24) rfl k) ?_
    refine own_go (B := (s₁.setTop (mkF m 26 #[iv pb, iv pk, iv z10, .val (.double z13), .second] [(.int (1 : Int32)), (.int (pb >>> ((((4 : Int32) * pk) + (3 : Int32)) &&& 31)))]))) (fun t k => own_iconst (v := (1 : Int32)) X0.here hx rfl (hb hby own_val_d25) (by decide) k) ?_
    refine own_go (B := (s₁.setTop (mkF m 27 #[iv pb, iv pk, iv z10, .val (.double z13), .second] [(.int ((pb >>> ((((4 : Int32) * pk) + (3 : Int32)) &&& 31)) &&& (1 : Int32)))]))) (fun t k => XS.iand (x := (pb >>> ((((4 : Int32) * pk) + (3 : Int32)) &&& 31))) (y := (1 : Int32)) X0.here hx rfl (hb hby own_val_d26) rfl k) ?_
    refine own_if X0 hx (hb hby own_val_d27) (pc' := 33) (pn := 30) (by decide) (by decide) rfl (fun (hc27 : ((pb >>> ((((4 : Int32) * pk) + (3 : Int32)) &&& 31)) &&& (1 : Int32)) = (0 : Int32)) => ?_) (fun (hc27 : ¬ ((pb >>> ((((4 : Int32) * pk) + (3 : Int32)) &&& 31)) &&& (1 : Int32)) = (0 : Int32)) => ?_)
    · refine own_go (B := (s₁.setTop (mkF m 34 #[iv pb, iv pk, iv z10, .val (.double z13), .second] [(.double z13)]))) (fun t k => XS.dloadN X0.here hx rfl (hb hby own_val_d33) rfl k) ?_
      exact own_retD X0 hx hlk Bd.returns (hb hby own_val_d34) (own_b rfl) (own_b rfl) (Q := (own_val_Q Z pb pk h0 n0)) ⟨_, rfl, N0, e0⟩
    · refine own_go (B := (s₁.setTop (mkF m 31 #[iv pb, iv pk, iv z10, .val (.double z13), .second] [(.double z13)]))) (fun t k => XS.dloadN X0.here hx rfl (hb hby own_val_d30) rfl k) ?_
      refine own_go (B := (s₁.setTop (mkF m 32 #[iv pb, iv pk, iv z10, .val (.double z13), .second] [(.double (FP.dneg z13))]))) (fun t k => XS.dnegS (x := z13) (v := (FP.dneg z13)) X0.here hx rfl (hb hby own_val_d31) rfl rfl k) ?_
      obtain ⟨z32, hz32⟩ : ∃ z : UInt64, z = (FP.dneg z13) := ⟨_, rfl⟩
      rw [← hz32]
      refine own_go (B := (s₁.setTop (mkF m 33 #[iv pb, iv pk, iv z10, .val (.double z32), .second] []))) (fun t k => XS.dstoreN X0.here hx rfl (hb hby own_val_d32) rfl (l' := #[iv pb, iv pk, iv z10, .val (.double z32), .second]) rfl k) ?_
      refine own_go (B := (s₁.setTop (mkF m 34 #[iv pb, iv pk, iv z10, .val (.double z32), .second] [(.double z32)]))) (fun t k => XS.dloadN X0.here hx rfl (hb hby own_val_d33) rfl k) ?_
      exact own_retD X0 hx hlk Bd.returns (hb hby own_val_d34) (own_b rfl) (own_b rfl) (Q := (own_val_Q Z pb pk h0 n0)) ⟨_, rfl, N0, e0⟩

theorem own_dm_d0 : decode prog_34_method_2_code 0 = .ok (.iconst 0, 1) := by decide +kernel
theorem own_dm_d1 : decode prog_34_method_2_code 1 = .ok (.istore_n 3, 1) := by decide +kernel
theorem own_dm_d2 : decode prog_34_method_2_code 2 = .ok (.iload_n 3, 1) := by decide +kernel
theorem own_dm_d3 : decode prog_34_method_2_code 3 = .ok (.iload_n 2, 1) := by decide +kernel
theorem own_dm_d4 : decode prog_34_method_2_code 4 = .ok (.if_icmp .ge 21, 3) := by decide +kernel
theorem own_dm_d7 : decode prog_34_method_2_code 7 = .ok (.aload_n 0, 1) := by decide +kernel
theorem own_dm_d8 : decode prog_34_method_2_code 8 = .ok (.iload_n 3, 1) := by decide +kernel
theorem own_dm_d9 : decode prog_34_method_2_code 9 = .ok (.daload, 1) := by decide +kernel
theorem own_dm_d10 : decode prog_34_method_2_code 10 = .ok (.aload_n 1, 1) := by decide +kernel
theorem own_dm_d11 : decode prog_34_method_2_code 11 = .ok (.iload_n 3, 1) := by decide +kernel
theorem own_dm_d12 : decode prog_34_method_2_code 12 = .ok (.daload, 1) := by decide +kernel
theorem own_dm_d13 : decode prog_34_method_2_code 13 = .ok (.dcmp .l, 1) := by decide +kernel
theorem own_dm_d14 : decode prog_34_method_2_code 14 = .ok (.ifCond .eq 5, 3) := by decide +kernel
theorem own_dm_d17 : decode prog_34_method_2_code 17 = .ok (.iconst 0, 1) := by decide +kernel
theorem own_dm_d18 : decode prog_34_method_2_code 18 = .ok (.ireturn, 1) := by decide +kernel
theorem own_dm_d19 : decode prog_34_method_2_code 19 = .ok (.iinc 3 1, 3) := by decide +kernel
theorem own_dm_d22 : decode prog_34_method_2_code 22 = .ok (.goto (-20), 3) := by decide +kernel
theorem own_dm_d25 : decode prog_34_method_2_code 25 = .ok (.iconst 0, 1) := by decide +kernel
theorem own_dm_d26 : decode prog_34_method_2_code 26 = .ok (.istore_n 3, 1) := by decide +kernel
theorem own_dm_d27 : decode prog_34_method_2_code 27 = .ok (.iload_n 2, 1) := by decide +kernel
theorem own_dm_d28 : decode prog_34_method_2_code 28 = .ok (.istore 4, 2) := by decide +kernel
theorem own_dm_d30 : decode prog_34_method_2_code 30 = .ok (.iload 4, 2) := by decide +kernel
theorem own_dm_d32 : decode prog_34_method_2_code 32 = .ok (.aload_n 0, 1) := by decide +kernel
theorem own_dm_d33 : decode prog_34_method_2_code 33 = .ok (.arraylength, 1) := by decide +kernel
theorem own_dm_d34 : decode prog_34_method_2_code 34 = .ok (.if_icmp .ge 43, 3) := by decide +kernel
theorem own_dm_d37 : decode prog_34_method_2_code 37 = .ok (.aload_n 0, 1) := by decide +kernel
theorem own_dm_d38 : decode prog_34_method_2_code 38 = .ok (.iload 4, 2) := by decide +kernel
theorem own_dm_d40 : decode prog_34_method_2_code 40 = .ok (.daload, 1) := by decide +kernel
theorem own_dm_d41 : decode prog_34_method_2_code 41 = .ok (.aload_n 1, 1) := by decide +kernel
theorem own_dm_d42 : decode prog_34_method_2_code 42 = .ok (.iload 4, 2) := by decide +kernel
theorem own_dm_d44 : decode prog_34_method_2_code 44 = .ok (.daload, 1) := by decide +kernel
theorem own_dm_d45 : decode prog_34_method_2_code 45 = .ok (.dcmp .l, 1) := by decide +kernel
theorem own_dm_d46 : decode prog_34_method_2_code 46 = .ok (.ifCond .ge 5, 3) := by decide +kernel
theorem own_dm_d49 : decode prog_34_method_2_code 49 = .ok (.iconst 0, 1) := by decide +kernel
theorem own_dm_d50 : decode prog_34_method_2_code 50 = .ok (.ireturn, 1) := by decide +kernel
theorem own_dm_d51 : decode prog_34_method_2_code 51 = .ok (.iload_n 3, 1) := by decide +kernel
theorem own_dm_d52 : decode prog_34_method_2_code 52 = .ok (.aload_n 0, 1) := by decide +kernel
theorem own_dm_d53 : decode prog_34_method_2_code 53 = .ok (.iload 4, 2) := by decide +kernel
theorem own_dm_d55 : decode prog_34_method_2_code 55 = .ok (.daload, 1) := by decide +kernel
theorem own_dm_d56 : decode prog_34_method_2_code 56 = .ok (.aload_n 1, 1) := by decide +kernel
theorem own_dm_d57 : decode prog_34_method_2_code 57 = .ok (.iload 4, 2) := by decide +kernel
theorem own_dm_d59 : decode prog_34_method_2_code 59 = .ok (.daload, 1) := by decide +kernel
theorem own_dm_d60 : decode prog_34_method_2_code 60 = .ok (.dcmp .l, 1) := by decide +kernel
theorem own_dm_d61 : decode prog_34_method_2_code 61 = .ok (.ifCond .le 7, 3) := by decide +kernel
theorem own_dm_d64 : decode prog_34_method_2_code 64 = .ok (.iconst 1, 1) := by decide +kernel
theorem own_dm_d65 : decode prog_34_method_2_code 65 = .ok (.goto 4, 3) := by decide +kernel
theorem own_dm_d68 : decode prog_34_method_2_code 68 = .ok (.iconst 0, 1) := by decide +kernel
theorem own_dm_d69 : decode prog_34_method_2_code 69 = .ok (.ior, 1) := by decide +kernel
theorem own_dm_d70 : decode prog_34_method_2_code 70 = .ok (.istore_n 3, 1) := by decide +kernel
theorem own_dm_d71 : decode prog_34_method_2_code 71 = .ok (.iinc 4 1, 3) := by decide +kernel
theorem own_dm_d74 : decode prog_34_method_2_code 74 = .ok (.goto (-44), 3) := by decide +kernel
theorem own_dm_d77 : decode prog_34_method_2_code 77 = .ok (.iload_n 3, 1) := by decide +kernel
theorem own_dm_d78 : decode prog_34_method_2_code 78 = .ok (.ireturn, 1) := by decide +kernel
theorem own_dm_pn : plainName "com/example/bindweave/bindweave/select/Dominance" = true := by first | (simp [plainName, overriddenIn]; done) | decide +kernel
theorem own_dm_ef (m : MethodId) (pa : Addr) (qa : Addr) (pe : Int32) : entryFrame m #[(.ref pa), (.ref qa), (.int pe)] 5 = mkF m 0 #[rv pa, rv qa, iv pe, .unset, .unset] [] := by first | (simp [entryFrame, mkF, argsToLocals, Value.category]; done) | rfl
def own_dm_Q (Z : State) (pa : Addr) (qa : Addr) (pe : Int32) (x0 x1 x2 y0 y1 y2 : UInt64) (h0 : Heap) (n0 : Nat) (v : Option Value) (h : Heap) (L : List Loc) : Prop := v = some (.int (own_dom pe (own_c x0 y0) (own_c x1 y1) (own_c x2 y2))) ∧ Fr n0 L ∧ h = h0
set_option maxRecDepth 65536 in
set_option maxHeartbeats 40000000 in
theorem own_dm (l : Launch) (Z : State) (a0 : Array Value) (hw : ∀ d ∈ tables_1, d.before a0 Z = true) (ws : List Jvm.Cond) (pa : Addr) (qa : Addr) (pe : Int32) (x0 x1 x2 y0 y1 y2 : UInt64) (h0 : Heap) (n0 : Nat) (V0 : own_Ar Z h0 pa .double [(.double x0), (.double x1), (.double x2)]) (V1 : own_Ar Z h0 qa .double [(.double y0), (.double y1), (.double y2)]) (he : pe = 0 ∨ pe = 1 ∨ pe = 2 ∨ pe = 3) :
    MetFree l own_y2 (head1 (Jvm.Cond.code own_y2 prog_34_method_2_code 5 (some .boolean) :: ws) ({ frames := 0, cells := 0, slots := 0, locals := 0 } : Room)) (fun a U => a = #[(.ref pa), (.ref qa), (.int pe)] ∧ Z.Warmed39 U.vm ∧ U.heap = h0) (fun _ _ _ _ _ => True) (fun _ U o U' => ∃ v L, o = .returned v ∧ (own_dm_Q Z pa qa pe x0 x1 x2 y0 y1 y2 h0 n0) v U'.heap L ∧ FrameEnd U o U' L ({ frames := 0, cells := 0, slots := 0, locals := 0 } : Room).cells ({ frames := 0, cells := 0, slots := 0, locals := 0 } : Room).slots) := by
  refine MetFree.of_bodySF (plainFor_of_name own_dm_pn) hisR ?_
  intro p e s m args below meth c s₁ Bd hml0 hP hK
  obtain ⟨rfl, hZ, hh⟩ := hP
  have hx := Bd.exec
  have hby := Bd.bytes
  have hml : c.maxLocals = 5 := hml0
  have hown : s.vm.findClass "com/example/bindweave/bindweave/select/Dominance" = some m.cls := findClass_of_methodNamed Bd.named
  have hnm := (name_of_methodNamed Bd.named Bd.method).1
  have hlk : meth.locks = false := Bd.notSynchronized
  have X0 : Stand p l e ({ frames := 0, cells := 0, slots := 0, locals := 0 } : Room) s m #[(.ref pa), (.ref qa), (.int pe)] below meth c s₁ [] 0 0 := Stand.of_body Bd
  have e0 : s₁.heap = h0 := by rw [← hh, Bd.state]; rfl
  have N0 := Fr.nil n0
  show own_G p.tables e below (fun o U' => ∃ v L, o = .returned v ∧ (own_dm_Q Z pa qa pe x0 x1 x2 y0 y1 y2 h0 n0) v U'.heap L ∧ FrameEnd s o U' L ({ frames := 0, cells := 0, slots := 0, locals := 0 } : Room).cells ({ frames := 0, cells := 0, slots := 0, locals := 0 } : Room).slots) (s₁.setTop (entryFrame m #[(.ref pa), (.ref qa), (.int pe)] 5))
  refine own_go (B := s₁.setTop (mkF m 0 #[rv pa, rv qa, iv pe, .unset, .unset] [])) (fun t k => castTop (own_dm_ef m pa qa pe) k) ?_
  rcases he with he | he | he | he
  · refine own_go (B := (s₁.setTop (mkF m 1 #[rv pa, rv qa, iv pe, .unset, .unset] [(.int (0 : Int32))]))) (fun t k => own_iconst (v := (0 : Int32)) X0.here hx rfl (hb hby own_dm_d0) (by decide) k) ?_
    refine own_go (B := (s₁.setTop (mkF m 2 #[rv pa, rv qa, iv pe, iv (0 : Int32), .unset] []))) (fun t k => XS.istoreN X0.here hx rfl (hb hby own_dm_d1) rfl (l' := #[rv pa, rv qa, iv pe, iv (0 : Int32), .unset]) rfl k) ?_
    refine own_go (B := (s₁.setTop (mkF m 3 #[rv pa, rv qa, iv pe, iv (0 : Int32), .unset] [(.int (0 : Int32))]))) (fun t k => XS.iloadN X0.here hx rfl (hb hby own_dm_d2) rfl k) ?_
    refine own_go (B := (s₁.setTop (mkF m 4 #[rv pa, rv qa, iv pe, iv (0 : Int32), .unset] [(.int pe), (.int (0 : Int32))]))) (fun t k => XS.iloadN X0.here hx rfl (hb hby own_dm_d3) rfl k) ?_
    have hc_1 : ¬ (0 : Int32) < pe := (by rw [he]; decide)
    refine own_icmpY X0 hx (hb hby own_dm_d4) (pc' := 25) (by decide) (by decide) hc_1 ?_
    refine own_go (B := (s₁.setTop (mkF m 26 #[rv pa, rv qa, iv pe, iv (0 : Int32), .unset] [(.int (0 : Int32))]))) (fun t k => own_iconst (v := (0 : Int32)) X0.here hx rfl (hb hby own_dm_d25) (by decide) k) ?_
    refine own_go (B := (s₁.setTop (mkF m 27 #[rv pa, rv qa, iv pe, iv (0 : Int32), .unset] []))) (fun t k => XS.istoreN X0.here hx rfl (hb hby own_dm_d26) rfl (l' := #[rv pa, rv qa, iv pe, iv (0 : Int32), .unset]) rfl k) ?_
    refine own_go (B := (s₁.setTop (mkF m 28 #[rv pa, rv qa, iv pe, iv (0 : Int32), .unset] [(.int pe)]))) (fun t k => XS.iloadN X0.here hx rfl (hb hby own_dm_d27) rfl k) ?_
    refine own_cast (B := (s₁.setTop (mkF m 28 #[rv pa, rv qa, iv pe, iv (0 : Int32), .unset] [(.int (0 : Int32))]))) (by rw [he]) ?_
    refine own_go (B := (s₁.setTop (mkF m 30 #[rv pa, rv qa, iv pe, iv (0 : Int32), iv (0 : Int32)] []))) (fun t k => XS.istore X0.here hx rfl (hb hby own_dm_d28) rfl (l' := #[rv pa, rv qa, iv pe, iv (0 : Int32), iv (0 : Int32)]) rfl k) ?_
    refine own_go (B := (s₁.setTop (mkF m 32 #[rv pa, rv qa, iv pe, iv (0 : Int32), iv (0 : Int32)] [(.int (0 : Int32))]))) (fun t k => XS.iload X0.here hx rfl (hb hby own_dm_d30) rfl k) ?_
    refine own_go (B := (s₁.setTop (mkF m 33 #[rv pa, rv qa, iv pe, iv (0 : Int32), iv (0 : Int32)] [(.ref pa), (.int (0 : Int32))]))) (fun t k => XS.aloadN X0.here hx rfl (hb hby own_dm_d32) rfl rfl k) ?_
    refine own_go (B := (s₁.setTop (mkF m 34 #[rv pa, rv qa, iv pe, iv (0 : Int32), iv (0 : Int32)] [(.int (3 : Int32)), (.int (0 : Int32))]))) (own_alen X0 hx hZ e0 V0 (n := (3 : Int32)) (own_lenL (n := 3) rfl (by decide)) (g := (mkF m 33 #[rv pa, rv qa, iv pe, iv (0 : Int32), iv (0 : Int32)] [(.ref pa), (.int (0 : Int32))])) rfl rfl (hb hby own_dm_d33)) ?_
    have hc_2 : (0 : Int32) < (3 : Int32) := (by decide)
    refine own_icmpN X0 hx (hb hby own_dm_d34) (pn := 37) rfl hc_2 ?_
    refine own_go (B := (s₁.setTop (mkF m 38 #[rv pa, rv qa, iv pe, iv (0 : Int32), iv (0 : Int32)] [(.ref pa)]))) (fun t k => XS.aloadN X0.here hx rfl (hb hby own_dm_d37) rfl rfl k) ?_
    refine own_go (B := (s₁.setTop (mkF m 40 #[rv pa, rv qa, iv pe, iv (0 : Int32), iv (0 : Int32)] [(.int (0 : Int32)), (.ref pa)]))) (fun t k => XS.iload X0.here hx rfl (hb hby own_dm_d38) rfl k) ?_
    refine own_go (B := (s₁.setTop (mkF m 41 #[rv pa, rv qa, iv pe, iv (0 : Int32), iv (0 : Int32)] [(.double x0)]))) (own_ldD X0 hx hZ e0 V0 (v := (.double x0)) (by decide) rfl (g := (mkF m 40 #[rv pa, rv qa, iv pe, iv (0 : Int32), iv (0 : Int32)] [(.int (0 : Int32)), (.ref pa)])) rfl rfl (hb hby own_dm_d40)) ?_
    refine own_go (B := (s₁.setTop (mkF m 42 #[rv pa, rv qa, iv pe, iv (0 : Int32), iv (0 : Int32)] [(.ref qa), (.double x0)]))) (fun t k => XS.aloadN X0.here hx rfl (hb hby own_dm_d41) rfl rfl k) ?_
    refine own_go (B := (s₁.setTop (mkF m 44 #[rv pa, rv qa, iv pe, iv (0 : Int32), iv (0 : Int32)] [(.int (0 : Int32)), (.ref qa), (.double x0)]))) (fun t k => XS.iload X0.here hx rfl (hb hby own_dm_d42) rfl k) ?_
    refine own_go (B := (s₁.setTop (mkF m 45 #[rv pa, rv qa, iv pe, iv (0 : Int32), iv (0 : Int32)] [(.double y0), (.double x0)]))) (own_ldD X0 hx hZ e0 V1 (v := (.double y0)) (by decide) rfl (g := (mkF m 44 #[rv pa, rv qa, iv pe, iv (0 : Int32), iv (0 : Int32)] [(.int (0 : Int32)), (.ref qa), (.double x0)])) rfl rfl (hb hby own_dm_d44)) ?_
    refine own_go (B := (s₁.setTop (mkF m 46 #[rv pa, rv qa, iv pe, iv (0 : Int32), iv (0 : Int32)] [(.int (own_c x0 y0))]))) (fun t k => XS.dcmpS (x := x0) (y := y0) (v := (own_c x0 y0)) X0.here hx rfl (hb hby own_dm_d45) rfl rfl k) ?_
    refine own_if X0 hx (hb hby own_dm_d46) (pc' := 51) (pn := 49) (by decide) (by decide) rfl (fun (hc_3 : ¬ (own_c x0 y0) < (0 : Int32)) => ?_) (fun (hc_3 : (own_c x0 y0) < (0 : Int32)) => ?_)
    · refine own_go (B := (s₁.setTop (mkF m 52 #[rv pa, rv qa, iv pe, iv (0 : Int32), iv (0 : Int32)] [(.int (0 : Int32))]))) (fun t k => XS.iloadN X0.here hx rfl (hb hby own_dm_d51) rfl k) ?_
      refine own_go (B := (s₁.setTop (mkF m 53 #[rv pa, rv qa, iv pe, iv (0 : Int32), iv (0 : Int32)] [(.ref pa), (.int (0 : Int32))]))) (fun t k => XS.aloadN X0.here hx rfl (hb hby own_dm_d52) rfl rfl k) ?_
      refine own_go (B := (s₁.setTop (mkF m 55 #[rv pa, rv qa, iv pe, iv (0 : Int32), iv (0 : Int32)] [(.int (0 : Int32)), (.ref pa), (.int (0 : Int32))]))) (fun t k => XS.iload X0.here hx rfl (hb hby own_dm_d53) rfl k) ?_
      refine own_go (B := (s₁.setTop (mkF m 56 #[rv pa, rv qa, iv pe, iv (0 : Int32), iv (0 : Int32)] [(.double x0), (.int (0 : Int32))]))) (own_ldD X0 hx hZ e0 V0 (v := (.double x0)) (by decide) rfl (g := (mkF m 55 #[rv pa, rv qa, iv pe, iv (0 : Int32), iv (0 : Int32)] [(.int (0 : Int32)), (.ref pa), (.int (0 : Int32))])) rfl rfl (hb hby own_dm_d55)) ?_
      refine own_go (B := (s₁.setTop (mkF m 57 #[rv pa, rv qa, iv pe, iv (0 : Int32), iv (0 : Int32)] [(.ref qa), (.double x0), (.int (0 : Int32))]))) (fun t k => XS.aloadN X0.here hx rfl (hb hby own_dm_d56) rfl rfl k) ?_
      refine own_go (B := (s₁.setTop (mkF m 59 #[rv pa, rv qa, iv pe, iv (0 : Int32), iv (0 : Int32)] [(.int (0 : Int32)), (.ref qa), (.double x0), (.int (0 : Int32))]))) (fun t k => XS.iload X0.here hx rfl (hb hby own_dm_d57) rfl k) ?_
      refine own_go (B := (s₁.setTop (mkF m 60 #[rv pa, rv qa, iv pe, iv (0 : Int32), iv (0 : Int32)] [(.double y0), (.double x0), (.int (0 : Int32))]))) (own_ldD X0 hx hZ e0 V1 (v := (.double y0)) (by decide) rfl (g := (mkF m 59 #[rv pa, rv qa, iv pe, iv (0 : Int32), iv (0 : Int32)] [(.int (0 : Int32)), (.ref qa), (.double x0), (.int (0 : Int32))])) rfl rfl (hb hby own_dm_d59)) ?_
      refine own_go (B := (s₁.setTop (mkF m 61 #[rv pa, rv qa, iv pe, iv (0 : Int32), iv (0 : Int32)] [(.int (own_c x0 y0)), (.int (0 : Int32))]))) (fun t k => XS.dcmpS (x := x0) (y := y0) (v := (own_c x0 y0)) X0.here hx rfl (hb hby own_dm_d60) rfl rfl k) ?_
      refine own_if X0 hx (hb hby own_dm_d61) (pc' := 68) (pn := 64) (by decide) (by decide) rfl (fun (hc_4 : ¬ (0 : Int32) < (own_c x0 y0)) => ?_) (fun (hc_4 : (0 : Int32) < (own_c x0 y0)) => ?_)
      · refine own_go (B := (s₁.setTop (mkF m 69 #[rv pa, rv qa, iv pe, iv (0 : Int32), iv (0 : Int32)] [(.int (0 : Int32)), (.int (0 : Int32))]))) (fun t k => own_iconst (v := (0 : Int32)) X0.here hx rfl (hb hby own_dm_d68) (by decide) k) ?_
        refine own_go (B := (s₁.setTop (mkF m 70 #[rv pa, rv qa, iv pe, iv (0 : Int32), iv (0 : Int32)] [(.int ((0 : Int32) ||| (0 : Int32)))]))) (fun t k => XS.ior (x := (0 : Int32)) (y := (0 : Int32)) X0.here hx rfl (hb hby own_dm_d69) rfl k) ?_
        rw [show ((0 : Int32) ||| (0 : Int32)) = (0 : Int32) from by decide]
        refine own_go (B := (s₁.setTop (mkF m 71 #[rv pa, rv qa, iv pe, iv (0 : Int32), iv (0 : Int32)] []))) (fun t k => XS.istoreN X0.here hx rfl (hb hby own_dm_d70) rfl (l' := #[rv pa, rv qa, iv pe, iv (0 : Int32), iv (0 : Int32)]) rfl k) ?_
        refine own_go (B := (s₁.setTop (mkF m 74 #[rv pa, rv qa, iv pe, iv (0 : Int32), iv (1 : Int32)] []))) (fun t k => XS.iinc X0.here hx rfl (hb hby own_dm_d71) rfl (l' := #[rv pa, rv qa, iv pe, iv (0 : Int32), iv (1 : Int32)]) rfl k) ?_
        refine own_go (B := (s₁.setTop (mkF m 30 #[rv pa, rv qa, iv pe, iv (0 : Int32), iv (1 : Int32)] []))) (fun t k => XS.goto X0.here hx rfl (pc0 := 74) (pc' := 30) rfl (hb hby own_dm_d74) (by decide) (by decide) k) ?_
        refine own_go (B := (s₁.setTop (mkF m 32 #[rv pa, rv qa, iv pe, iv (0 : Int32), iv (1 : Int32)] [(.int (1 : Int32))]))) (fun t k => XS.iload X0.here hx rfl (hb hby own_dm_d30) rfl k) ?_
        refine own_go (B := (s₁.setTop (mkF m 33 #[rv pa, rv qa, iv pe, iv (0 : Int32), iv (1 : Int32)] [(.ref pa), (.int (1 : Int32))]))) (fun t k => XS.aloadN X0.here hx rfl (hb hby own_dm_d32) rfl rfl k) ?_
        refine own_go (B := (s₁.setTop (mkF m 34 #[rv pa, rv qa, iv pe, iv (0 : Int32), iv (1 : Int32)] [(.int (3 : Int32)), (.int (1 : Int32))]))) (own_alen X0 hx hZ e0 V0 (n := (3 : Int32)) (own_lenL (n := 3) rfl (by decide)) (g := (mkF m 33 #[rv pa, rv qa, iv pe, iv (0 : Int32), iv (1 : Int32)] [(.ref pa), (.int (1 : Int32))])) rfl rfl (hb hby own_dm_d33)) ?_
        have hc_5 : (1 : Int32) < (3 : Int32) := (by decide)
        refine own_icmpN X0 hx (hb hby own_dm_d34) (pn := 37) rfl hc_5 ?_
        refine own_go (B := (s₁.setTop (mkF m 38 #[rv pa, rv qa, iv pe, iv (0 : Int32), iv (1 : Int32)] [(.ref pa)]))) (fun t k => XS.aloadN X0.here hx rfl (hb hby own_dm_d37) rfl rfl k) ?_
        refine own_go (B := (s₁.setTop (mkF m 40 #[rv pa, rv qa, iv pe, iv (0 : Int32), iv (1 : Int32)] [(.int (1 : Int32)), (.ref pa)]))) (fun t k => XS.iload X0.here hx rfl (hb hby own_dm_d38) rfl k) ?_
        refine own_go (B := (s₁.setTop (mkF m 41 #[rv pa, rv qa, iv pe, iv (0 : Int32), iv (1 : Int32)] [(.double x1)]))) (own_ldD X0 hx hZ e0 V0 (v := (.double x1)) (by decide) rfl (g := (mkF m 40 #[rv pa, rv qa, iv pe, iv (0 : Int32), iv (1 : Int32)] [(.int (1 : Int32)), (.ref pa)])) rfl rfl (hb hby own_dm_d40)) ?_
        refine own_go (B := (s₁.setTop (mkF m 42 #[rv pa, rv qa, iv pe, iv (0 : Int32), iv (1 : Int32)] [(.ref qa), (.double x1)]))) (fun t k => XS.aloadN X0.here hx rfl (hb hby own_dm_d41) rfl rfl k) ?_
        refine own_go (B := (s₁.setTop (mkF m 44 #[rv pa, rv qa, iv pe, iv (0 : Int32), iv (1 : Int32)] [(.int (1 : Int32)), (.ref qa), (.double x1)]))) (fun t k => XS.iload X0.here hx rfl (hb hby own_dm_d42) rfl k) ?_
        refine own_go (B := (s₁.setTop (mkF m 45 #[rv pa, rv qa, iv pe, iv (0 : Int32), iv (1 : Int32)] [(.double y1), (.double x1)]))) (own_ldD X0 hx hZ e0 V1 (v := (.double y1)) (by decide) rfl (g := (mkF m 44 #[rv pa, rv qa, iv pe, iv (0 : Int32), iv (1 : Int32)] [(.int (1 : Int32)), (.ref qa), (.double x1)])) rfl rfl (hb hby own_dm_d44)) ?_
        refine own_go (B := (s₁.setTop (mkF m 46 #[rv pa, rv qa, iv pe, iv (0 : Int32), iv (1 : Int32)] [(.int (own_c x1 y1))]))) (fun t k => XS.dcmpS (x := x1) (y := y1) (v := (own_c x1 y1)) X0.here hx rfl (hb hby own_dm_d45) rfl rfl k) ?_
        refine own_if X0 hx (hb hby own_dm_d46) (pc' := 51) (pn := 49) (by decide) (by decide) rfl (fun (hc_6 : ¬ (own_c x1 y1) < (0 : Int32)) => ?_) (fun (hc_6 : (own_c x1 y1) < (0 : Int32)) => ?_)
        · refine own_go (B := (s₁.setTop (mkF m 52 #[rv pa, rv qa, iv pe, iv (0 : Int32), iv (1 : Int32)] [(.int (0 : Int32))]))) (fun t k => XS.iloadN X0.here hx rfl (hb hby own_dm_d51) rfl k) ?_
          refine own_go (B := (s₁.setTop (mkF m 53 #[rv pa, rv qa, iv pe, iv (0 : Int32), iv (1 : Int32)] [(.ref pa), (.int (0 : Int32))]))) (fun t k => XS.aloadN X0.here hx rfl (hb hby own_dm_d52) rfl rfl k) ?_
          refine own_go (B := (s₁.setTop (mkF m 55 #[rv pa, rv qa, iv pe, iv (0 : Int32), iv (1 : Int32)] [(.int (1 : Int32)), (.ref pa), (.int (0 : Int32))]))) (fun t k => XS.iload X0.here hx rfl (hb hby own_dm_d53) rfl k) ?_
          refine own_go (B := (s₁.setTop (mkF m 56 #[rv pa, rv qa, iv pe, iv (0 : Int32), iv (1 : Int32)] [(.double x1), (.int (0 : Int32))]))) (own_ldD X0 hx hZ e0 V0 (v := (.double x1)) (by decide) rfl (g := (mkF m 55 #[rv pa, rv qa, iv pe, iv (0 : Int32), iv (1 : Int32)] [(.int (1 : Int32)), (.ref pa), (.int (0 : Int32))])) rfl rfl (hb hby own_dm_d55)) ?_
          refine own_go (B := (s₁.setTop (mkF m 57 #[rv pa, rv qa, iv pe, iv (0 : Int32), iv (1 : Int32)] [(.ref qa), (.double x1), (.int (0 : Int32))]))) (fun t k => XS.aloadN X0.here hx rfl (hb hby own_dm_d56) rfl rfl k) ?_
          refine own_go (B := (s₁.setTop (mkF m 59 #[rv pa, rv qa, iv pe, iv (0 : Int32), iv (1 : Int32)] [(.int (1 : Int32)), (.ref qa), (.double x1), (.int (0 : Int32))]))) (fun t k => XS.iload X0.here hx rfl (hb hby own_dm_d57) rfl k) ?_
          refine own_go (B := (s₁.setTop (mkF m 60 #[rv pa, rv qa, iv pe, iv (0 : Int32), iv (1 : Int32)] [(.double y1), (.double x1), (.int (0 : Int32))]))) (own_ldD X0 hx hZ e0 V1 (v := (.double y1)) (by decide) rfl (g := (mkF m 59 #[rv pa, rv qa, iv pe, iv (0 : Int32), iv (1 : Int32)] [(.int (1 : Int32)), (.ref qa), (.double x1), (.int (0 : Int32))])) rfl rfl (hb hby own_dm_d59)) ?_
          refine own_go (B := (s₁.setTop (mkF m 61 #[rv pa, rv qa, iv pe, iv (0 : Int32), iv (1 : Int32)] [(.int (own_c x1 y1)), (.int (0 : Int32))]))) (fun t k => XS.dcmpS (x := x1) (y := y1) (v := (own_c x1 y1)) X0.here hx rfl (hb hby own_dm_d60) rfl rfl k) ?_
          refine own_if X0 hx (hb hby own_dm_d61) (pc' := 68) (pn := 64) (by decide) (by decide) rfl (fun (hc_7 : ¬ (0 : Int32) < (own_c x1 y1)) => ?_) (fun (hc_7 : (0 : Int32) < (own_c x1 y1)) => ?_)
          · refine own_go (B := (s₁.setTop (mkF m 69 #[rv pa, rv qa, iv pe, iv (0 : Int32), iv (1 : Int32)] [(.int (0 : Int32)), (.int (0 : Int32))]))) (fun t k => own_iconst (v := (0 : Int32)) X0.here hx rfl (hb hby own_dm_d68) (by decide) k) ?_
            refine own_go (B := (s₁.setTop (mkF m 70 #[rv pa, rv qa, iv pe, iv (0 : Int32), iv (1 : Int32)] [(.int ((0 : Int32) ||| (0 : Int32)))]))) (fun t k => XS.ior (x := (0 : Int32)) (y := (0 : Int32)) X0.here hx rfl (hb hby own_dm_d69) rfl k) ?_
            rw [show ((0 : Int32) ||| (0 : Int32)) = (0 : Int32) from by decide]
            refine own_go (B := (s₁.setTop (mkF m 71 #[rv pa, rv qa, iv pe, iv (0 : Int32), iv (1 : Int32)] []))) (fun t k => XS.istoreN X0.here hx rfl (hb hby own_dm_d70) rfl (l' := #[rv pa, rv qa, iv pe, iv (0 : Int32), iv (1 : Int32)]) rfl k) ?_
            refine own_go (B := (s₁.setTop (mkF m 74 #[rv pa, rv qa, iv pe, iv (0 : Int32), iv (2 : Int32)] []))) (fun t k => XS.iinc X0.here hx rfl (hb hby own_dm_d71) rfl (l' := #[rv pa, rv qa, iv pe, iv (0 : Int32), iv (2 : Int32)]) rfl k) ?_
            refine own_go (B := (s₁.setTop (mkF m 30 #[rv pa, rv qa, iv pe, iv (0 : Int32), iv (2 : Int32)] []))) (fun t k => XS.goto X0.here hx rfl (pc0 := 74) (pc' := 30) rfl (hb hby own_dm_d74) (by decide) (by decide) k) ?_
            refine own_go (B := (s₁.setTop (mkF m 32 #[rv pa, rv qa, iv pe, iv (0 : Int32), iv (2 : Int32)] [(.int (2 : Int32))]))) (fun t k => XS.iload X0.here hx rfl (hb hby own_dm_d30) rfl k) ?_
            refine own_go (B := (s₁.setTop (mkF m 33 #[rv pa, rv qa, iv pe, iv (0 : Int32), iv (2 : Int32)] [(.ref pa), (.int (2 : Int32))]))) (fun t k => XS.aloadN X0.here hx rfl (hb hby own_dm_d32) rfl rfl k) ?_
            refine own_go (B := (s₁.setTop (mkF m 34 #[rv pa, rv qa, iv pe, iv (0 : Int32), iv (2 : Int32)] [(.int (3 : Int32)), (.int (2 : Int32))]))) (own_alen X0 hx hZ e0 V0 (n := (3 : Int32)) (own_lenL (n := 3) rfl (by decide)) (g := (mkF m 33 #[rv pa, rv qa, iv pe, iv (0 : Int32), iv (2 : Int32)] [(.ref pa), (.int (2 : Int32))])) rfl rfl (hb hby own_dm_d33)) ?_
            have hc_8 : (2 : Int32) < (3 : Int32) := (by decide)
            refine own_icmpN X0 hx (hb hby own_dm_d34) (pn := 37) rfl hc_8 ?_
            refine own_go (B := (s₁.setTop (mkF m 38 #[rv pa, rv qa, iv pe, iv (0 : Int32), iv (2 : Int32)] [(.ref pa)]))) (fun t k => XS.aloadN X0.here hx rfl (hb hby own_dm_d37) rfl rfl k) ?_
            refine own_go (B := (s₁.setTop (mkF m 40 #[rv pa, rv qa, iv pe, iv (0 : Int32), iv (2 : Int32)] [(.int (2 : Int32)), (.ref pa)]))) (fun t k => XS.iload X0.here hx rfl (hb hby own_dm_d38) rfl k) ?_
            refine own_go (B := (s₁.setTop (mkF m 41 #[rv pa, rv qa, iv pe, iv (0 : Int32), iv (2 : Int32)] [(.double x2)]))) (own_ldD X0 hx hZ e0 V0 (v := (.double x2)) (by decide) rfl (g := (mkF m 40 #[rv pa, rv qa, iv pe, iv (0 : Int32), iv (2 : Int32)] [(.int (2 : Int32)), (.ref pa)])) rfl rfl (hb hby own_dm_d40)) ?_
            refine own_go (B := (s₁.setTop (mkF m 42 #[rv pa, rv qa, iv pe, iv (0 : Int32), iv (2 : Int32)] [(.ref qa), (.double x2)]))) (fun t k => XS.aloadN X0.here hx rfl (hb hby own_dm_d41) rfl rfl k) ?_
            refine own_go (B := (s₁.setTop (mkF m 44 #[rv pa, rv qa, iv pe, iv (0 : Int32), iv (2 : Int32)] [(.int (2 : Int32)), (.ref qa), (.double x2)]))) (fun t k => XS.iload X0.here hx rfl (hb hby own_dm_d42) rfl k) ?_
            refine own_go (B := (s₁.setTop (mkF m 45 #[rv pa, rv qa, iv pe, iv (0 : Int32), iv (2 : Int32)] [(.double y2), (.double x2)]))) (own_ldD X0 hx hZ e0 V1 (v := (.double y2)) (by decide) rfl (g := (mkF m 44 #[rv pa, rv qa, iv pe, iv (0 : Int32), iv (2 : Int32)] [(.int (2 : Int32)), (.ref qa), (.double x2)])) rfl rfl (hb hby own_dm_d44)) ?_
            refine own_go (B := (s₁.setTop (mkF m 46 #[rv pa, rv qa, iv pe, iv (0 : Int32), iv (2 : Int32)] [(.int (own_c x2 y2))]))) (fun t k => XS.dcmpS (x := x2) (y := y2) (v := (own_c x2 y2)) X0.here hx rfl (hb hby own_dm_d45) rfl rfl k) ?_
            refine own_if X0 hx (hb hby own_dm_d46) (pc' := 51) (pn := 49) (by decide) (by decide) rfl (fun (hc_9 : ¬ (own_c x2 y2) < (0 : Int32)) => ?_) (fun (hc_9 : (own_c x2 y2) < (0 : Int32)) => ?_)
            · refine own_go (B := (s₁.setTop (mkF m 52 #[rv pa, rv qa, iv pe, iv (0 : Int32), iv (2 : Int32)] [(.int (0 : Int32))]))) (fun t k => XS.iloadN X0.here hx rfl (hb hby own_dm_d51) rfl k) ?_
              refine own_go (B := (s₁.setTop (mkF m 53 #[rv pa, rv qa, iv pe, iv (0 : Int32), iv (2 : Int32)] [(.ref pa), (.int (0 : Int32))]))) (fun t k => XS.aloadN X0.here hx rfl (hb hby own_dm_d52) rfl rfl k) ?_
              refine own_go (B := (s₁.setTop (mkF m 55 #[rv pa, rv qa, iv pe, iv (0 : Int32), iv (2 : Int32)] [(.int (2 : Int32)), (.ref pa), (.int (0 : Int32))]))) (fun t k => XS.iload X0.here hx rfl (hb hby own_dm_d53) rfl k) ?_
              refine own_go (B := (s₁.setTop (mkF m 56 #[rv pa, rv qa, iv pe, iv (0 : Int32), iv (2 : Int32)] [(.double x2), (.int (0 : Int32))]))) (own_ldD X0 hx hZ e0 V0 (v := (.double x2)) (by decide) rfl (g := (mkF m 55 #[rv pa, rv qa, iv pe, iv (0 : Int32), iv (2 : Int32)] [(.int (2 : Int32)), (.ref pa), (.int (0 : Int32))])) rfl rfl (hb hby own_dm_d55)) ?_
              refine own_go (B := (s₁.setTop (mkF m 57 #[rv pa, rv qa, iv pe, iv (0 : Int32), iv (2 : Int32)] [(.ref qa), (.double x2), (.int (0 : Int32))]))) (fun t k => XS.aloadN X0.here hx rfl (hb hby own_dm_d56) rfl rfl k) ?_
              refine own_go (B := (s₁.setTop (mkF m 59 #[rv pa, rv qa, iv pe, iv (0 : Int32), iv (2 : Int32)] [(.int (2 : Int32)), (.ref qa), (.double x2), (.int (0 : Int32))]))) (fun t k => XS.iload X0.here hx rfl (hb hby own_dm_d57) rfl k) ?_
              refine own_go (B := (s₁.setTop (mkF m 60 #[rv pa, rv qa, iv pe, iv (0 : Int32), iv (2 : Int32)] [(.double y2), (.double x2), (.int (0 : Int32))]))) (own_ldD X0 hx hZ e0 V1 (v := (.double y2)) (by decide) rfl (g := (mkF m 59 #[rv pa, rv qa, iv pe, iv (0 : Int32), iv (2 : Int32)] [(.int (2 : Int32)), (.ref qa), (.double x2), (.int (0 : Int32))])) rfl rfl (hb hby own_dm_d59)) ?_
              refine own_go (B := (s₁.setTop (mkF m 61 #[rv pa, rv qa, iv pe, iv (0 : Int32), iv (2 : Int32)] [(.int (own_c x2 y2)), (.int (0 : Int32))]))) (fun t k => XS.dcmpS (x := x2) (y := y2) (v := (own_c x2 y2)) X0.here hx rfl (hb hby own_dm_d60) rfl rfl k) ?_
              refine own_if X0 hx (hb hby own_dm_d61) (pc' := 68) (pn := 64) (by decide) (by decide) rfl (fun (hc_10 : ¬ (0 : Int32) < (own_c x2 y2)) => ?_) (fun (hc_10 : (0 : Int32) < (own_c x2 y2)) => ?_)
              · refine own_go (B := (s₁.setTop (mkF m 69 #[rv pa, rv qa, iv pe, iv (0 : Int32), iv (2 : Int32)] [(.int (0 : Int32)), (.int (0 : Int32))]))) (fun t k => own_iconst (v := (0 : Int32)) X0.here hx rfl (hb hby own_dm_d68) (by decide) k) ?_
                refine own_go (B := (s₁.setTop (mkF m 70 #[rv pa, rv qa, iv pe, iv (0 : Int32), iv (2 : Int32)] [(.int ((0 : Int32) ||| (0 : Int32)))]))) (fun t k => XS.ior (x := (0 : Int32)) (y := (0 : Int32)) X0.here hx rfl (hb hby own_dm_d69) rfl k) ?_
                rw [show ((0 : Int32) ||| (0 : Int32)) = (0 : Int32) from by decide]
                refine own_go (B := (s₁.setTop (mkF m 71 #[rv pa, rv qa, iv pe, iv (0 : Int32), iv (2 : Int32)] []))) (fun t k => XS.istoreN X0.here hx rfl (hb hby own_dm_d70) rfl (l' := #[rv pa, rv qa, iv pe, iv (0 : Int32), iv (2 : Int32)]) rfl k) ?_
                refine own_go (B := (s₁.setTop (mkF m 74 #[rv pa, rv qa, iv pe, iv (0 : Int32), iv (3 : Int32)] []))) (fun t k => XS.iinc X0.here hx rfl (hb hby own_dm_d71) rfl (l' := #[rv pa, rv qa, iv pe, iv (0 : Int32), iv (3 : Int32)]) rfl k) ?_
                refine own_go (B := (s₁.setTop (mkF m 30 #[rv pa, rv qa, iv pe, iv (0 : Int32), iv (3 : Int32)] []))) (fun t k => XS.goto X0.here hx rfl (pc0 := 74) (pc' := 30) rfl (hb hby own_dm_d74) (by decide) (by decide) k) ?_
                refine own_go (B := (s₁.setTop (mkF m 32 #[rv pa, rv qa, iv pe, iv (0 : Int32), iv (3 : Int32)] [(.int (3 : Int32))]))) (fun t k => XS.iload X0.here hx rfl (hb hby own_dm_d30) rfl k) ?_
                refine own_go (B := (s₁.setTop (mkF m 33 #[rv pa, rv qa, iv pe, iv (0 : Int32), iv (3 : Int32)] [(.ref pa), (.int (3 : Int32))]))) (fun t k => XS.aloadN X0.here hx rfl (hb hby own_dm_d32) rfl rfl k) ?_
                refine own_go (B := (s₁.setTop (mkF m 34 #[rv pa, rv qa, iv pe, iv (0 : Int32), iv (3 : Int32)] [(.int (3 : Int32)), (.int (3 : Int32))]))) (own_alen X0 hx hZ e0 V0 (n := (3 : Int32)) (own_lenL (n := 3) rfl (by decide)) (g := (mkF m 33 #[rv pa, rv qa, iv pe, iv (0 : Int32), iv (3 : Int32)] [(.ref pa), (.int (3 : Int32))])) rfl rfl (hb hby own_dm_d33)) ?_
                have hc_11 : ¬ (3 : Int32) < (3 : Int32) := (by decide)
                refine own_icmpY X0 hx (hb hby own_dm_d34) (pc' := 77) (by decide) (by decide) hc_11 ?_
                refine own_go (B := (s₁.setTop (mkF m 78 #[rv pa, rv qa, iv pe, iv (0 : Int32), iv (3 : Int32)] [(.int (0 : Int32))]))) (fun t k => XS.iloadN X0.here hx rfl (hb hby own_dm_d77) rfl k) ?_
                exact own_retZ X0 hx hlk Bd.returns (hb hby own_dm_d78) (by decide) (own_b rfl) (own_b rfl) (Q := (own_dm_Q Z pa qa pe x0 x1 x2 y0 y1 y2 h0 n0)) ⟨by rw [he]; simp +decide [own_dom, own_okk, own_ss, own_and, hc_1, hc_2, hc_3, hc_4, hc_5, hc_6, hc_7, hc_8, hc_9, hc_10, hc_11], N0, e0⟩
              · refine own_go (B := (s₁.setTop (mkF m 65 #[rv pa, rv qa, iv pe, iv (0 : Int32), iv (2 : Int32)] [(.int (1 : Int32)), (.int (0 : Int32))]))) (fun t k => own_iconst (v := (1 : Int32)) X0.here hx rfl (hb hby own_dm_d64) (by decide) k) ?_
                refine own_go (B := (s₁.setTop (mkF m 69 #[rv pa, rv qa, iv pe, iv (0 : Int32), iv (2 : Int32)] [(.int (1 : Int32)), (.int (0 : Int32))]))) (fun t k => XS.goto X0.here hx rfl (pc0 := 65) (pc' := 69) rfl (hb hby own_dm_d65) (by decide) (by decide) k) ?_
                refine own_go (B := (s₁.setTop (mkF m 70 #[rv pa, rv qa, iv pe, iv (0 : Int32), iv (2 : Int32)] [(.int ((0 : Int32) ||| (1 : Int32)))]))) (fun t k => XS.ior (x := (0 : Int32)) (y := (1 : Int32)) X0.here hx rfl (hb hby own_dm_d69) rfl k) ?_
                rw [show ((0 : Int32) ||| (1 : Int32)) = (1 : Int32) from by decide]
                refine own_go (B := (s₁.setTop (mkF m 71 #[rv pa, rv qa, iv pe, iv (1 : Int32), iv (2 : Int32)] []))) (fun t k => XS.istoreN X0.here hx rfl (hb hby own_dm_d70) rfl (l' := #[rv pa, rv qa, iv pe, iv (1 : Int32), iv (2 : Int32)]) rfl k) ?_
                refine own_go (B := (s₁.setTop (mkF m 74 #[rv pa, rv qa, iv pe, iv (1 : Int32), iv (3 : Int32)] []))) (fun t k => XS.iinc X0.here hx rfl (hb hby own_dm_d71) rfl (l' := #[rv pa, rv qa, iv pe, iv (1 : Int32), iv (3 : Int32)]) rfl k) ?_
                refine own_go (B := (s₁.setTop (mkF m 30 #[rv pa, rv qa, iv pe, iv (1 : Int32), iv (3 : Int32)] []))) (fun t k => XS.goto X0.here hx rfl (pc0 := 74) (pc' := 30) rfl (hb hby own_dm_d74) (by decide) (by decide) k) ?_
                refine own_go (B := (s₁.setTop (mkF m 32 #[rv pa, rv qa, iv pe, iv (1 : Int32), iv (3 : Int32)] [(.int (3 : Int32))]))) (fun t k => XS.iload X0.here hx rfl (hb hby own_dm_d30) rfl k) ?_
                refine own_go (B := (s₁.setTop (mkF m 33 #[rv pa, rv qa, iv pe, iv (1 : Int32), iv (3 : Int32)] [(.ref pa), (.int (3 : Int32))]))) (fun t k => XS.aloadN X0.here hx rfl (hb hby own_dm_d32) rfl rfl k) ?_
                refine own_go (B := (s₁.setTop (mkF m 34 #[rv pa, rv qa, iv pe, iv (1 : Int32), iv (3 : Int32)] [(.int (3 : Int32)), (.int (3 : Int32))]))) (own_alen X0 hx hZ e0 V0 (n := (3 : Int32)) (own_lenL (n := 3) rfl (by decide)) (g := (mkF m 33 #[rv pa, rv qa, iv pe, iv (1 : Int32), iv (3 : Int32)] [(.ref pa), (.int (3 : Int32))])) rfl rfl (hb hby own_dm_d33)) ?_
                have hc_12 : ¬ (3 : Int32) < (3 : Int32) := (by decide)
                refine own_icmpY X0 hx (hb hby own_dm_d34) (pc' := 77) (by decide) (by decide) hc_12 ?_
                refine own_go (B := (s₁.setTop (mkF m 78 #[rv pa, rv qa, iv pe, iv (1 : Int32), iv (3 : Int32)] [(.int (1 : Int32))]))) (fun t k => XS.iloadN X0.here hx rfl (hb hby own_dm_d77) rfl k) ?_
                exact own_retZ X0 hx hlk Bd.returns (hb hby own_dm_d78) (by decide) (own_b rfl) (own_b rfl) (Q := (own_dm_Q Z pa qa pe x0 x1 x2 y0 y1 y2 h0 n0)) ⟨by rw [he]; simp +decide [own_dom, own_okk, own_ss, own_and, hc_1, hc_2, hc_3, hc_4, hc_5, hc_6, hc_7, hc_8, hc_9, hc_10, hc_12], N0, e0⟩
            · refine own_go (B := (s₁.setTop (mkF m 50 #[rv pa, rv qa, iv pe, iv (0 : Int32), iv (2 : Int32)] [(.int (0 : Int32))]))) (fun t k => own_iconst (v := (0 : Int32)) X0.here hx rfl (hb hby own_dm_d49) (by decide) k) ?_
              exact own_retZ X0 hx hlk Bd.returns (hb hby own_dm_d50) (by decide) (own_b rfl) (own_b rfl) (Q := (own_dm_Q Z pa qa pe x0 x1 x2 y0 y1 y2 h0 n0)) ⟨by rw [he]; simp +decide [own_dom, own_okk, own_ss, own_and, hc_1, hc_2, hc_3, hc_4, hc_5, hc_6, hc_7, hc_8, hc_9], N0, e0⟩
          · refine own_go (B := (s₁.setTop (mkF m 65 #[rv pa, rv qa, iv pe, iv (0 : Int32), iv (1 : Int32)] [(.int (1 : Int32)), (.int (0 : Int32))]))) (fun t k => own_iconst (v := (1 : Int32)) X0.here hx rfl (hb hby own_dm_d64) (by decide) k) ?_
            refine own_go (B := (s₁.setTop (mkF m 69 #[rv pa, rv qa, iv pe, iv (0 : Int32), iv (1 : Int32)] [(.int (1 : Int32)), (.int (0 : Int32))]))) (fun t k => XS.goto X0.here hx rfl (pc0 := 65) (pc' := 69) rfl (hb hby own_dm_d65) (by decide) (by decide) k) ?_
            refine own_go (B := (s₁.setTop (mkF m 70 #[rv pa, rv qa, iv pe, iv (0 : Int32), iv (1 : Int32)] [(.int ((0 : Int32) ||| (1 : Int32)))]))) (fun t k => XS.ior (x := (0 : Int32)) (y := (1 : Int32)) X0.here hx rfl (hb hby own_dm_d69) rfl k) ?_
            rw [show ((0 : Int32) ||| (1 : Int32)) = (1 : Int32) from by decide]
            refine own_go (B := (s₁.setTop (mkF m 71 #[rv pa, rv qa, iv pe, iv (1 : Int32), iv (1 : Int32)] []))) (fun t k => XS.istoreN X0.here hx rfl (hb hby own_dm_d70) rfl (l' := #[rv pa, rv qa, iv pe, iv (1 : Int32), iv (1 : Int32)]) rfl k) ?_
            refine own_go (B := (s₁.setTop (mkF m 74 #[rv pa, rv qa, iv pe, iv (1 : Int32), iv (2 : Int32)] []))) (fun t k => XS.iinc X0.here hx rfl (hb hby own_dm_d71) rfl (l' := #[rv pa, rv qa, iv pe, iv (1 : Int32), iv (2 : Int32)]) rfl k) ?_
            refine own_go (B := (s₁.setTop (mkF m 30 #[rv pa, rv qa, iv pe, iv (1 : Int32), iv (2 : Int32)] []))) (fun t k => XS.goto X0.here hx rfl (pc0 := 74) (pc' := 30) rfl (hb hby own_dm_d74) (by decide) (by decide) k) ?_
            refine own_go (B := (s₁.setTop (mkF m 32 #[rv pa, rv qa, iv pe, iv (1 : Int32), iv (2 : Int32)] [(.int (2 : Int32))]))) (fun t k => XS.iload X0.here hx rfl (hb hby own_dm_d30) rfl k) ?_
            refine own_go (B := (s₁.setTop (mkF m 33 #[rv pa, rv qa, iv pe, iv (1 : Int32), iv (2 : Int32)] [(.ref pa), (.int (2 : Int32))]))) (fun t k => XS.aloadN X0.here hx rfl (hb hby own_dm_d32) rfl rfl k) ?_
            refine own_go (B := (s₁.setTop (mkF m 34 #[rv pa, rv qa, iv pe, iv (1 : Int32), iv (2 : Int32)] [(.int (3 : Int32)), (.int (2 : Int32))]))) (own_alen X0 hx hZ e0 V0 (n := (3 : Int32)) (own_lenL (n := 3) rfl (by decide)) (g := (mkF m 33 #[rv pa, rv qa, iv pe, iv (1 : Int32), iv (2 : Int32)] [(.ref pa), (.int (2 : Int32))])) rfl rfl (hb hby own_dm_d33)) ?_
            have hc_13 : (2 : Int32) < (3 : Int32) := (by decide)
            refine own_icmpN X0 hx (hb hby own_dm_d34) (pn := 37) rfl hc_13 ?_
            refine own_go (B := (s₁.setTop (mkF m 38 #[rv pa, rv qa, iv pe, iv (1 : Int32), iv (2 : Int32)] [(.ref pa)]))) (fun t k => XS.aloadN X0.here hx rfl (hb hby own_dm_d37) rfl rfl k) ?_
            refine own_go (B := (s₁.setTop (mkF m 40 #[rv pa, rv qa, iv pe, iv (1 : Int32), iv (2 : Int32)] [(.int (2 : Int32)), (.ref pa)]))) (fun t k => XS.iload X0.here hx rfl (hb hby own_dm_d38) rfl k) ?_
            refine own_go (B := (s₁.setTop (mkF m 41 #[rv pa, rv qa, iv pe, iv (1 : Int32), iv (2 : Int32)] [(.double x2)]))) (own_ldD X0 hx hZ e0 V0 (v := (.double x2)) (by decide) rfl (g := (mkF m 40 #[rv pa, rv qa, iv pe, iv (1 : Int32), iv (2 : Int32)] [(.int (2 : Int32)), (.ref pa)])) rfl rfl (hb hby own_dm_d40)) ?_
            refine own_go (B := (s₁.setTop (mkF m 42 #[rv pa, rv qa, iv pe, iv (1 : Int32), iv (2 : Int32)] [(.ref qa), (.double x2)]))) (fun t k => XS.aloadN X0.here hx rfl (hb hby own_dm_d41) rfl rfl k) ?_
            refine own_go (B := (s₁.setTop (mkF m 44 #[rv pa, rv qa, iv pe, iv (1 : Int32), iv (2 : Int32)] [(.int (2 : Int32)), (.ref qa), (.double x2)]))) (fun t k => XS.iload X0.here hx rfl (hb hby own_dm_d42) rfl k) ?_
            refine own_go (B := (s₁.setTop (mkF m 45 #[rv pa, rv qa, iv pe, iv (1 : Int32), iv (2 : Int32)] [(.double y2), (.double x2)]))) (own_ldD X0 hx hZ e0 V1 (v := (.double y2)) (by decide) rfl (g := (mkF m 44 #[rv pa, rv qa, iv pe, iv (1 : Int32), iv (2 : Int32)] [(.int (2 : Int32)), (.ref qa), (.double x2)])) rfl rfl (hb hby own_dm_d44)) ?_
            refine own_go (B := (s₁.setTop (mkF m 46 #[rv pa, rv qa, iv pe, iv (1 : Int32), iv (2 : Int32)] [(.int (own_c x2 y2))]))) (fun t k => XS.dcmpS (x := x2) (y := y2) (v := (own_c x2 y2)) X0.here hx rfl (hb hby own_dm_d45) rfl rfl k) ?_
            refine own_if X0 hx (hb hby own_dm_d46) (pc' := 51) (pn := 49) (by decide) (by decide) rfl (fun (hc_14 : ¬ (own_c x2 y2) < (0 : Int32)) => ?_) (fun (hc_14 : (own_c x2 y2) < (0 : Int32)) => ?_)
            · refine own_go (B := (s₁.setTop (mkF m 52 #[rv pa, rv qa, iv pe, iv (1 : Int32), iv (2 : Int32)] [(.int (1 : Int32))]))) (fun t k => XS.iloadN X0.here hx rfl (hb hby own_dm_d51) rfl k) ?_
              refine own_go (B := (s₁.setTop (mkF m 53 #[rv pa, rv qa, iv pe, iv (1 : Int32), iv (2 : Int32)] [(.ref pa), (.int (1 : Int32))]))) (fun t k => XS.aloadN X0.here hx rfl (hb hby own_dm_d52) rfl rfl k) ?_
              refine own_go (B := (s₁.setTop (mkF m 55 #[rv pa, rv qa, iv pe, iv (1 : Int32), iv (2 : Int32)] [(.int (2 : Int32)), (.ref pa), (.int (1 : Int32))]))) (fun t k => XS.iload X0.here hx rfl (hb hby own_dm_d53) rfl k) ?_
              refine own_go (B := (s₁.setTop (mkF m 56 #[rv pa, rv qa, iv pe, iv (1 : Int32), iv (2 : Int32)] [(.double x2), (.int (1 : Int32))]))) (own_ldD X0 hx hZ e0 V0 (v := (.double x2)) (by decide) rfl (g := (mkF m 55 #[rv pa, rv qa, iv pe, iv (1 : Int32), iv (2 : Int32)] [(.int (2 : Int32)), (.ref pa), (.int (1 : Int32))])) rfl rfl (hb hby own_dm_d55)) ?_
              refine own_go (B := (s₁.setTop (mkF m 57 #[rv pa, rv qa, iv pe, iv (1 : Int32), iv (2 : Int32)] [(.ref qa), (.double x2), (.int (1 : Int32))]))) (fun t k => XS.aloadN X0.here hx rfl (hb hby own_dm_d56) rfl rfl k) ?_
              refine own_go (B := (s₁.setTop (mkF m 59 #[rv pa, rv qa, iv pe, iv (1 : Int32), iv (2 : Int32)] [(.int (2 : Int32)), (.ref qa), (.double x2), (.int (1 : Int32))]))) (fun t k => XS.iload X0.here hx rfl (hb hby own_dm_d57) rfl k) ?_
              refine own_go (B := (s₁.setTop (mkF m 60 #[rv pa, rv qa, iv pe, iv (1 : Int32), iv (2 : Int32)] [(.double y2), (.double x2), (.int (1 : Int32))]))) (own_ldD X0 hx hZ e0 V1 (v := (.double y2)) (by decide) rfl (g := (mkF m 59 #[rv pa, rv qa, iv pe, iv (1 : Int32), iv (2 : Int32)] [(.int (2 : Int32)), (.ref qa), (.double x2), (.int (1 : Int32))])) rfl rfl (hb hby own_dm_d59)) ?_
              refine own_go (B := (s₁.setTop (mkF m 61 #[rv pa, rv qa, iv pe, iv (1 : Int32), iv (2 : Int32)] [(.int (own_c x2 y2)), (.int (1 : Int32))]))) (fun t k => XS.dcmpS (x := x2) (y := y2) (v := (own_c x2 y2)) X0.here hx rfl (hb hby own_dm_d60) rfl rfl k) ?_
              refine own_if X0 hx (hb hby own_dm_d61) (pc' := 68) (pn := 64) (by decide) (by decide) rfl (fun (hc_15 : ¬ (0 : Int32) < (own_c x2 y2)) => ?_) (fun (hc_15 : (0 : Int32) < (own_c x2 y2)) => ?_)
              · refine own_go (B := (s₁.setTop (mkF m 69 #[rv pa, rv qa, iv pe, iv (1 : Int32), iv (2 : Int32)] [(.int (0 : Int32)), (.int (1 : Int32))]))) (fun t k => own_iconst (v := (0 : Int32)) X0.here hx rfl (hb hby own_dm_d68) (by decide) k) ?_
                refine own_go (B := (s₁.setTop (mkF m 70 #[rv pa, rv qa, iv pe, iv (1 : Int32), iv (2 : Int32)] [(.int ((1 : Int32) ||| (0 : Int32)))]))) (fun t k => XS.ior (x := (1 : Int32)) (y := (0 : Int32)) X0.here hx rfl (hb hby own_dm_d69) rfl k) ?_
                rw [show ((1 : Int32) ||| (0 : Int32)) = (1 : Int32) from by decide]
                refine own_go (B := (s₁.setTop (mkF m 71 #[rv pa, rv qa, iv pe, iv (1 : Int32), iv (2 : Int32)] []))) (fun t k => XS.istoreN X0.here hx rfl (hb hby own_dm_d70) rfl (l' := #[rv pa, rv qa, iv pe, iv (1 : Int32), iv (2 : Int32)]) rfl k) ?_
                refine own_go (B := (s₁.setTop (mkF m 74 #[rv pa, rv qa, iv pe, iv (1 : Int32), iv (3 : Int32)] []))) (fun t k => XS.iinc X0.here hx rfl (hb hby own_dm_d71) rfl (l' := #[rv pa, rv qa, iv pe, iv (1 : Int32), iv (3 : Int32)]) rfl k) ?_
                refine own_go (B := (s₁.setTop (mkF m 30 #[rv pa, rv qa, iv pe, iv (1 : Int32), iv (3 : Int32)] []))) (fun t k => XS.goto X0.here hx rfl (pc0 := 74) (pc' := 30) rfl (hb hby own_dm_d74) (by decide) (by decide) k) ?_
                refine own_go (B := (s₁.setTop (mkF m 32 #[rv pa, rv qa, iv pe, iv (1 : Int32), iv (3 : Int32)] [(.int (3 : Int32))]))) (fun t k => XS.iload X0.here hx rfl (hb hby own_dm_d30) rfl k) ?_
                refine own_go (B := (s₁.setTop (mkF m 33 #[rv pa, rv qa, iv pe, iv (1 : Int32), iv (3 : Int32)] [(.ref pa), (.int (3 : Int32))]))) (fun t k => XS.aloadN X0.here hx rfl (hb hby own_dm_d32) rfl rfl k) ?_
                refine own_go (B := (s₁.setTop (mkF m 34 #[rv pa, rv qa, iv pe, iv (1 : Int32), iv (3 : Int32)] [(.int (3 : Int32)), (.int (3 : Int32))]))) (own_alen X0 hx hZ e0 V0 (n := (3 : Int32)) (own_lenL (n := 3) rfl (by decide)) (g := (mkF m 33 #[rv pa, rv qa, iv pe, iv (1 : Int32), iv (3 : Int32)] [(.ref pa), (.int (3 : Int32))])) rfl rfl (hb hby own_dm_d33)) ?_
                have hc_16 : ¬ (3 : Int32) < (3 : Int32) := (by decide)
                refine own_icmpY X0 hx (hb hby own_dm_d34) (pc' := 77) (by decide) (by decide) hc_16 ?_
                refine own_go (B := (s₁.setTop (mkF m 78 #[rv pa, rv qa, iv pe, iv (1 : Int32), iv (3 : Int32)] [(.int (1 : Int32))]))) (fun t k => XS.iloadN X0.here hx rfl (hb hby own_dm_d77) rfl k) ?_
                exact own_retZ X0 hx hlk Bd.returns (hb hby own_dm_d78) (by decide) (own_b rfl) (own_b rfl) (Q := (own_dm_Q Z pa qa pe x0 x1 x2 y0 y1 y2 h0 n0)) ⟨by rw [he]; simp +decide [own_dom, own_okk, own_ss, own_and, hc_1, hc_2, hc_3, hc_4, hc_5, hc_6, hc_7, hc_13, hc_14, hc_15, hc_16], N0, e0⟩
              · refine own_go (B := (s₁.setTop (mkF m 65 #[rv pa, rv qa, iv pe, iv (1 : Int32), iv (2 : Int32)] [(.int (1 : Int32)), (.int (1 : Int32))]))) (fun t k => own_iconst (v := (1 : Int32)) X0.here hx rfl (hb hby own_dm_d64) (by decide) k) ?_
                refine own_go (B := (s₁.setTop (mkF m 69 #[rv pa, rv qa, iv pe, iv (1 : Int32), iv (2 : Int32)] [(.int (1 : Int32)), (.int (1 : Int32))]))) (fun t k => XS.goto X0.here hx rfl (pc0 := 65) (pc' := 69) rfl (hb hby own_dm_d65) (by decide) (by decide) k) ?_
                refine own_go (B := (s₁.setTop (mkF m 70 #[rv pa, rv qa, iv pe, iv (1 : Int32), iv (2 : Int32)] [(.int ((1 : Int32) ||| (1 : Int32)))]))) (fun t k => XS.ior (x := (1 : Int32)) (y := (1 : Int32)) X0.here hx rfl (hb hby own_dm_d69) rfl k) ?_
                rw [show ((1 : Int32) ||| (1 : Int32)) = (1 : Int32) from by decide]
                refine own_go (B := (s₁.setTop (mkF m 71 #[rv pa, rv qa, iv pe, iv (1 : Int32), iv (2 : Int32)] []))) (fun t k => XS.istoreN X0.here hx rfl (hb hby own_dm_d70) rfl (l' := #[rv pa, rv qa, iv pe, iv (1 : Int32), iv (2 : Int32)]) rfl k) ?_
                refine own_go (B := (s₁.setTop (mkF m 74 #[rv pa, rv qa, iv pe, iv (1 : Int32), iv (3 : Int32)] []))) (fun t k => XS.iinc X0.here hx rfl (hb hby own_dm_d71) rfl (l' := #[rv pa, rv qa, iv pe, iv (1 : Int32), iv (3 : Int32)]) rfl k) ?_
                refine own_go (B := (s₁.setTop (mkF m 30 #[rv pa, rv qa, iv pe, iv (1 : Int32), iv (3 : Int32)] []))) (fun t k => XS.goto X0.here hx rfl (pc0 := 74) (pc' := 30) rfl (hb hby own_dm_d74) (by decide) (by decide) k) ?_
                refine own_go (B := (s₁.setTop (mkF m 32 #[rv pa, rv qa, iv pe, iv (1 : Int32), iv (3 : Int32)] [(.int (3 : Int32))]))) (fun t k => XS.iload X0.here hx rfl (hb hby own_dm_d30) rfl k) ?_
                refine own_go (B := (s₁.setTop (mkF m 33 #[rv pa, rv qa, iv pe, iv (1 : Int32), iv (3 : Int32)] [(.ref pa), (.int (3 : Int32))]))) (fun t k => XS.aloadN X0.here hx rfl (hb hby own_dm_d32) rfl rfl k) ?_
                refine own_go (B := (s₁.setTop (mkF m 34 #[rv pa, rv qa, iv pe, iv (1 : Int32), iv (3 : Int32)] [(.int (3 : Int32)), (.int (3 : Int32))]))) (own_alen X0 hx hZ e0 V0 (n := (3 : Int32)) (own_lenL (n := 3) rfl (by decide)) (g := (mkF m 33 #[rv pa, rv qa, iv pe, iv (1 : Int32), iv (3 : Int32)] [(.ref pa), (.int (3 : Int32))])) rfl rfl (hb hby own_dm_d33)) ?_
                have hc_17 : ¬ (3 : Int32) < (3 : Int32) := (by decide)
                refine own_icmpY X0 hx (hb hby own_dm_d34) (pc' := 77) (by decide) (by decide) hc_17 ?_
                refine own_go (B := (s₁.setTop (mkF m 78 #[rv pa, rv qa, iv pe, iv (1 : Int32), iv (3 : Int32)] [(.int (1 : Int32))]))) (fun t k => XS.iloadN X0.here hx rfl (hb hby own_dm_d77) rfl k) ?_
                exact own_retZ X0 hx hlk Bd.returns (hb hby own_dm_d78) (by decide) (own_b rfl) (own_b rfl) (Q := (own_dm_Q Z pa qa pe x0 x1 x2 y0 y1 y2 h0 n0)) ⟨by rw [he]; simp +decide [own_dom, own_okk, own_ss, own_and, hc_1, hc_2, hc_3, hc_4, hc_5, hc_6, hc_7, hc_13, hc_14, hc_15, hc_17], N0, e0⟩
            · refine own_go (B := (s₁.setTop (mkF m 50 #[rv pa, rv qa, iv pe, iv (1 : Int32), iv (2 : Int32)] [(.int (0 : Int32))]))) (fun t k => own_iconst (v := (0 : Int32)) X0.here hx rfl (hb hby own_dm_d49) (by decide) k) ?_
              exact own_retZ X0 hx hlk Bd.returns (hb hby own_dm_d50) (by decide) (own_b rfl) (own_b rfl) (Q := (own_dm_Q Z pa qa pe x0 x1 x2 y0 y1 y2 h0 n0)) ⟨by rw [he]; simp +decide [own_dom, own_okk, own_ss, own_and, hc_1, hc_2, hc_3, hc_4, hc_5, hc_6, hc_7, hc_13, hc_14], N0, e0⟩
        · refine own_go (B := (s₁.setTop (mkF m 50 #[rv pa, rv qa, iv pe, iv (0 : Int32), iv (1 : Int32)] [(.int (0 : Int32))]))) (fun t k => own_iconst (v := (0 : Int32)) X0.here hx rfl (hb hby own_dm_d49) (by decide) k) ?_
          exact own_retZ X0 hx hlk Bd.returns (hb hby own_dm_d50) (by decide) (own_b rfl) (own_b rfl) (Q := (own_dm_Q Z pa qa pe x0 x1 x2 y0 y1 y2 h0 n0)) ⟨by rw [he]; simp +decide [own_dom, own_okk, own_ss, own_and, hc_1, hc_2, hc_3, hc_4, hc_5, hc_6], N0, e0⟩
      · refine own_go (B := (s₁.setTop (mkF m 65 #[rv pa, rv qa, iv pe, iv (0 : Int32), iv (0 : Int32)] [(.int (1 : Int32)), (.int (0 : Int32))]))) (fun t k => own_iconst (v := (1 : Int32)) X0.here hx rfl (hb hby own_dm_d64) (by decide) k) ?_
        refine own_go (B := (s₁.setTop (mkF m 69 #[rv pa, rv qa, iv pe, iv (0 : Int32), iv (0 : Int32)] [(.int (1 : Int32)), (.int (0 : Int32))]))) (fun t k => XS.goto X0.here hx rfl (pc0 := 65) (pc' := 69) rfl (hb hby own_dm_d65) (by decide) (by decide) k) ?_
        refine own_go (B := (s₁.setTop (mkF m 70 #[rv pa, rv qa, iv pe, iv (0 : Int32), iv (0 : Int32)] [(.int ((0 : Int32) ||| (1 : Int32)))]))) (fun t k => XS.ior (x := (0 : Int32)) (y := (1 : Int32)) X0.here hx rfl (hb hby own_dm_d69) rfl k) ?_
        rw [show ((0 : Int32) ||| (1 : Int32)) = (1 : Int32) from by decide]
        refine own_go (B := (s₁.setTop (mkF m 71 #[rv pa, rv qa, iv pe, iv (1 : Int32), iv (0 : Int32)] []))) (fun t k => XS.istoreN X0.here hx rfl (hb hby own_dm_d70) rfl (l' := #[rv pa, rv qa, iv pe, iv (1 : Int32), iv (0 : Int32)]) rfl k) ?_
        refine own_go (B := (s₁.setTop (mkF m 74 #[rv pa, rv qa, iv pe, iv (1 : Int32), iv (1 : Int32)] []))) (fun t k => XS.iinc X0.here hx rfl (hb hby own_dm_d71) rfl (l' := #[rv pa, rv qa, iv pe, iv (1 : Int32), iv (1 : Int32)]) rfl k) ?_
        refine own_go (B := (s₁.setTop (mkF m 30 #[rv pa, rv qa, iv pe, iv (1 : Int32), iv (1 : Int32)] []))) (fun t k => XS.goto X0.here hx rfl (pc0 := 74) (pc' := 30) rfl (hb hby own_dm_d74) (by decide) (by decide) k) ?_
        refine own_go (B := (s₁.setTop (mkF m 32 #[rv pa, rv qa, iv pe, iv (1 : Int32), iv (1 : Int32)] [(.int (1 : Int32))]))) (fun t k => XS.iload X0.here hx rfl (hb hby own_dm_d30) rfl k) ?_
        refine own_go (B := (s₁.setTop (mkF m 33 #[rv pa, rv qa, iv pe, iv (1 : Int32), iv (1 : Int32)] [(.ref pa), (.int (1 : Int32))]))) (fun t k => XS.aloadN X0.here hx rfl (hb hby own_dm_d32) rfl rfl k) ?_
        refine own_go (B := (s₁.setTop (mkF m 34 #[rv pa, rv qa, iv pe, iv (1 : Int32), iv (1 : Int32)] [(.int (3 : Int32)), (.int (1 : Int32))]))) (own_alen X0 hx hZ e0 V0 (n := (3 : Int32)) (own_lenL (n := 3) rfl (by decide)) (g := (mkF m 33 #[rv pa, rv qa, iv pe, iv (1 : Int32), iv (1 : Int32)] [(.ref pa), (.int (1 : Int32))])) rfl rfl (hb hby own_dm_d33)) ?_
        have hc_18 : (1 : Int32) < (3 : Int32) := (by decide)
        refine own_icmpN X0 hx (hb hby own_dm_d34) (pn := 37) rfl hc_18 ?_
        refine own_go (B := (s₁.setTop (mkF m 38 #[rv pa, rv qa, iv pe, iv (1 : Int32), iv (1 : Int32)] [(.ref pa)]))) (fun t k => XS.aloadN X0.here hx rfl (hb hby own_dm_d37) rfl rfl k) ?_
        refine own_go (B := (s₁.setTop (mkF m 40 #[rv pa, rv qa, iv pe, iv (1 : Int32), iv (1 : Int32)] [(.int (1 : Int32)), (.ref pa)]))) (fun t k => XS.iload X0.here hx rfl (hb hby own_dm_d38) rfl k) ?_
        refine own_go (B := (s₁.setTop (mkF m 41 #[rv pa, rv qa, iv pe, iv (1 : Int32), iv (1 : Int32)] [(.double x1)]))) (own_ldD X0 hx hZ e0 V0 (v := (.double x1)) (by decide) rfl (g := (mkF m 40 #[rv pa, rv qa, iv pe, iv (1 : Int32), iv (1 : Int32)] [(.int (1 : Int32)), (.ref pa)])) rfl rfl (hb hby own_dm_d40)) ?_
        refine own_go (B := (s₁.setTop (mkF m 42 #[rv pa, rv qa, iv pe, iv (1 : Int32), iv (1 : Int32)] [(.ref qa), (.double x1)]))) (fun t k => XS.aloadN X0.here hx rfl (hb hby own_dm_d41) rfl rfl k) ?_
        refine own_go (B := (s₁.setTop (mkF m 44 #[rv pa, rv qa, iv pe, iv (1 : Int32), iv (1 : Int32)] [(.int (1 : Int32)), (.ref qa), (.double x1)]))) (fun t k => XS.iload X0.here hx rfl (hb hby own_dm_d42) rfl k) ?_
        refine own_go (B := (s₁.setTop (mkF m 45 #[rv pa, rv qa, iv pe, iv (1 : Int32), iv (1 : Int32)] [(.double y1), (.double x1)]))) (own_ldD X0 hx hZ e0 V1 (v := (.double y1)) (by decide) rfl (g := (mkF m 44 #[rv pa, rv qa, iv pe, iv (1 : Int32), iv (1 : Int32)] [(.int (1 : Int32)), (.ref qa), (.double x1)])) rfl rfl (hb hby own_dm_d44)) ?_
        refine own_go (B := (s₁.setTop (mkF m 46 #[rv pa, rv qa, iv pe, iv (1 : Int32), iv (1 : Int32)] [(.int (own_c x1 y1))]))) (fun t k => XS.dcmpS (x := x1) (y := y1) (v := (own_c x1 y1)) X0.here hx rfl (hb hby own_dm_d45) rfl rfl k) ?_
        refine own_if X0 hx (hb hby own_dm_d46) (pc' := 51) (pn := 49) (by decide) (by decide) rfl (fun (hc_19 : ¬ (own_c x1 y1) < (0 : Int32)) => ?_) (fun (hc_19 : (own_c x1 y1) < (0 : Int32)) => ?_)
        · refine own_go (B := (s₁.setTop (mkF m 52 #[rv pa, rv qa, iv pe, iv (1 : Int32), iv (1 : Int32)] [(.int (1 : Int32))]))) (fun t k => XS.iloadN X0.here hx rfl (hb hby own_dm_d51) rfl k) ?_
          refine own_go (B := (s₁.setTop (mkF m 53 #[rv pa, rv qa, iv pe, iv (1 : Int32), iv (1 : Int32)] [(.ref pa), (.int (1 : Int32))]))) (fun t k => XS.aloadN X0.here hx rfl (hb hby own_dm_d52) rfl rfl k) ?_
          refine own_go (B := (s₁.setTop (mkF m 55 #[rv pa, rv qa, iv pe, iv (1 : Int32), iv (1 : Int32)] [(.int (1 : Int32)), (.ref pa), (.int (1 : Int32))]))) (fun t k => XS.iload X0.here hx rfl (hb hby own_dm_d53) rfl k) ?_
          refine own_go (B := (s₁.setTop (mkF m 56 #[rv pa, rv qa, iv pe, iv (1 : Int32), iv (1 : Int32)] [(.double x1), (.int (1 : Int32))]))) (own_ldD X0 hx hZ e0 V0 (v := (.double x1)) (by decide) rfl (g := (mkF m 55 #[rv pa, rv qa, iv pe, iv (1 : Int32), iv (1 : Int32)] [(.int (1 : Int32)), (.ref pa), (.int (1 : Int32))])) rfl rfl (hb hby own_dm_d55)) ?_
          refine own_go (B := (s₁.setTop (mkF m 57 #[rv pa, rv qa, iv pe, iv (1 : Int32), iv (1 : Int32)] [(.ref qa), (.double x1), (.int (1 : Int32))]))) (fun t k => XS.aloadN X0.here hx rfl (hb hby own_dm_d56) rfl rfl k) ?_
          refine own_go (B := (s₁.setTop (mkF m 59 #[rv pa, rv qa, iv pe, iv (1 : Int32), iv (1 : Int32)] [(.int (1 : Int32)), (.ref qa), (.double x1), (.int (1 : Int32))]))) (fun t k => XS.iload X0.here hx rfl (hb hby own_dm_d57) rfl k) ?_
          refine own_go (B := (s₁.setTop (mkF m 60 #[rv pa, rv qa, iv pe, iv (1 : Int32), iv (1 : Int32)] [(.double y1), (.double x1), (.int (1 : Int32))]))) (own_ldD X0 hx hZ e0 V1 (v := (.double y1)) (by decide) rfl (g := (mkF m 59 #[rv pa, rv qa, iv pe, iv (1 : Int32), iv (1 : Int32)] [(.int (1 : Int32)), (.ref qa), (.double x1), (.int (1 : Int32))])) rfl rfl (hb hby own_dm_d59)) ?_
          refine own_go (B := (s₁.setTop (mkF m 61 #[rv pa, rv qa, iv pe, iv (1 : Int32), iv (1 : Int32)] [(.int (own_c x1 y1)), (.int (1 : Int32))]))) (fun t k => XS.dcmpS (x := x1) (y := y1) (v := (own_c x1 y1)) X0.here hx rfl (hb hby own_dm_d60) rfl rfl k) ?_
          refine own_if X0 hx (hb hby own_dm_d61) (pc' := 68) (pn := 64) (by decide) (by decide) rfl (fun (hc_20 : ¬ (0 : Int32) < (own_c x1 y1)) => ?_) (fun (hc_20 : (0 : Int32) < (own_c x1 y1)) => ?_)
          · refine own_go (B := (s₁.setTop (mkF m 69 #[rv pa, rv qa, iv pe, iv (1 : Int32), iv (1 : Int32)] [(.int (0 : Int32)), (.int (1 : Int32))]))) (fun t k => own_iconst (v := (0 : Int32)) X0.here hx rfl (hb hby own_dm_d68) (by decide) k) ?_
            refine own_go (B := (s₁.setTop (mkF m 70 #[rv pa, rv qa, iv pe, iv (1 : Int32), iv (1 : Int32)] [(.int ((1 : Int32) ||| (0 : Int32)))]))) (fun t k => XS.ior (x := (1 : Int32)) (y := (0 : Int32)) X0.here hx rfl (hb hby own_dm_d69) rfl k) ?_
            rw [show ((1 : Int32) ||| (0 : Int32)) = (1 : Int32) from by decide]
            refine own_go (B := (s₁.setTop (mkF m 71 #[rv pa, rv qa, iv pe, iv (1 : Int32), iv (1 : Int32)] []))) (fun t k => XS.istoreN X0.here hx rfl (hb hby own_dm_d70) rfl (l' := #[rv pa, rv qa, iv pe, iv (1 : Int32), iv (1 : Int32)]) rfl k) ?_
            refine own_go (B := (s₁.setTop (mkF m 74 #[rv pa, rv qa, iv pe, iv (1 : Int32), iv (2 : Int32)] []))) (fun t k => XS.iinc X0.here hx rfl (hb hby own_dm_d71) rfl (l' := #[rv pa, rv qa, iv pe, iv (1 : Int32), iv (2 : Int32)]) rfl k) ?_
            refine own_go (B := (s₁.setTop (mkF m 30 #[rv pa, rv qa, iv pe, iv (1 : Int32), iv (2 : Int32)] []))) (fun t k => XS.goto X0.here hx rfl (pc0 := 74) (pc' := 30) rfl (hb hby own_dm_d74) (by decide) (by decide) k) ?_
            refine own_go (B := (s₁.setTop (mkF m 32 #[rv pa, rv qa, iv pe, iv (1 : Int32), iv (2 : Int32)] [(.int (2 : Int32))]))) (fun t k => XS.iload X0.here hx rfl (hb hby own_dm_d30) rfl k) ?_
            refine own_go (B := (s₁.setTop (mkF m 33 #[rv pa, rv qa, iv pe, iv (1 : Int32), iv (2 : Int32)] [(.ref pa), (.int (2 : Int32))]))) (fun t k => XS.aloadN X0.here hx rfl (hb hby own_dm_d32) rfl rfl k) ?_
            refine own_go (B := (s₁.setTop (mkF m 34 #[rv pa, rv qa, iv pe, iv (1 : Int32), iv (2 : Int32)] [(.int (3 : Int32)), (.int (2 : Int32))]))) (own_alen X0 hx hZ e0 V0 (n := (3 : Int32)) (own_lenL (n := 3) rfl (by decide)) (g := (mkF m 33 #[rv pa, rv qa, iv pe, iv (1 : Int32), iv (2 : Int32)] [(.ref pa), (.int (2 : Int32))])) rfl rfl (hb hby own_dm_d33)) ?_
            have hc_21 : (2 : Int32) < (3 : Int32) := (by decide)
            refine own_icmpN X0 hx (hb hby own_dm_d34) (pn := 37) rfl hc_21 ?_
            refine own_go (B := (s₁.setTop (mkF m 38 #[rv pa, rv qa, iv pe, iv (1 : Int32), iv (2 : Int32)] [(.ref pa)]))) (fun t k => XS.aloadN X0.here hx rfl (hb hby own_dm_d37) rfl rfl k) ?_
            refine own_go (B := (s₁.setTop (mkF m 40 #[rv pa, rv qa, iv pe, iv (1 : Int32), iv (2 : Int32)] [(.int (2 : Int32)), (.ref pa)]))) (fun t k => XS.iload X0.here hx rfl (hb hby own_dm_d38) rfl k) ?_
            refine own_go (B := (s₁.setTop (mkF m 41 #[rv pa, rv qa, iv pe, iv (1 : Int32), iv (2 : Int32)] [(.double x2)]))) (own_ldD X0 hx hZ e0 V0 (v := (.double x2)) (by decide) rfl (g := (mkF m 40 #[rv pa, rv qa, iv pe, iv (1 : Int32), iv (2 : Int32)] [(.int (2 : Int32)), (.ref pa)])) rfl rfl (hb hby own_dm_d40)) ?_
            refine own_go (B := (s₁.setTop (mkF m 42 #[rv pa, rv qa, iv pe, iv (1 : Int32), iv (2 : Int32)] [(.ref qa), (.double x2)]))) (fun t k => XS.aloadN X0.here hx rfl (hb hby own_dm_d41) rfl rfl k) ?_
            refine own_go (B := (s₁.setTop (mkF m 44 #[rv pa, rv qa, iv pe, iv (1 : Int32), iv (2 : Int32)] [(.int (2 : Int32)), (.ref qa), (.double x2)]))) (fun t k => XS.iload X0.here hx rfl (hb hby own_dm_d42) rfl k) ?_
            refine own_go (B := (s₁.setTop (mkF m 45 #[rv pa, rv qa, iv pe, iv (1 : Int32), iv (2 : Int32)] [(.double y2), (.double x2)]))) (own_ldD X0 hx hZ e0 V1 (v := (.double y2)) (by decide) rfl (g := (mkF m 44 #[rv pa, rv qa, iv pe, iv (1 : Int32), iv (2 : Int32)] [(.int (2 : Int32)), (.ref qa), (.double x2)])) rfl rfl (hb hby own_dm_d44)) ?_
            refine own_go (B := (s₁.setTop (mkF m 46 #[rv pa, rv qa, iv pe, iv (1 : Int32), iv (2 : Int32)] [(.int (own_c x2 y2))]))) (fun t k => XS.dcmpS (x := x2) (y := y2) (v := (own_c x2 y2)) X0.here hx rfl (hb hby own_dm_d45) rfl rfl k) ?_
            refine own_if X0 hx (hb hby own_dm_d46) (pc' := 51) (pn := 49) (by decide) (by decide) rfl (fun (hc_22 : ¬ (own_c x2 y2) < (0 : Int32)) => ?_) (fun (hc_22 : (own_c x2 y2) < (0 : Int32)) => ?_)
            · refine own_go (B := (s₁.setTop (mkF m 52 #[rv pa, rv qa, iv pe, iv (1 : Int32), iv (2 : Int32)] [(.int (1 : Int32))]))) (fun t k => XS.iloadN X0.here hx rfl (hb hby own_dm_d51) rfl k) ?_
              refine own_go (B := (s₁.setTop (mkF m 53 #[rv pa, rv qa, iv pe, iv (1 : Int32), iv (2 : Int32)] [(.ref pa), (.int (1 : Int32))]))) (fun t k => XS.aloadN X0.here hx rfl (hb hby own_dm_d52) rfl rfl k) ?_
              refine own_go (B := (s₁.setTop (mkF m 55 #[rv pa, rv qa, iv pe, iv (1 : Int32), iv (2 : Int32)] [(.int (2 : Int32)), (.ref pa), (.int (1 : Int32))]))) (fun t k => XS.iload X0.here hx rfl (hb hby own_dm_d53) rfl k) ?_
              refine own_go (B := (s₁.setTop (mkF m 56 #[rv pa, rv qa, iv pe, iv (1 : Int32), iv (2 : Int32)] [(.double x2), (.int (1 : Int32))]))) (own_ldD X0 hx hZ e0 V0 (v := (.double x2)) (by decide) rfl (g := (mkF m 55 #[rv pa, rv qa, iv pe, iv (1 : Int32), iv (2 : Int32)] [(.int (2 : Int32)), (.ref pa), (.int (1 : Int32))])) rfl rfl (hb hby own_dm_d55)) ?_
              refine own_go (B := (s₁.setTop (mkF m 57 #[rv pa, rv qa, iv pe, iv (1 : Int32), iv (2 : Int32)] [(.ref qa), (.double x2), (.int (1 : Int32))]))) (fun t k => XS.aloadN X0.here hx rfl (hb hby own_dm_d56) rfl rfl k) ?_
              refine own_go (B := (s₁.setTop (mkF m 59 #[rv pa, rv qa, iv pe, iv (1 : Int32), iv (2 : Int32)] [(.int (2 : Int32)), (.ref qa), (.double x2), (.int (1 : Int32))]))) (fun t k => XS.iload X0.here hx rfl (hb hby own_dm_d57) rfl k) ?_
              refine own_go (B := (s₁.setTop (mkF m 60 #[rv pa, rv qa, iv pe, iv (1 : Int32), iv (2 : Int32)] [(.double y2), (.double x2), (.int (1 : Int32))]))) (own_ldD X0 hx hZ e0 V1 (v := (.double y2)) (by decide) rfl (g := (mkF m 59 #[rv pa, rv qa, iv pe, iv (1 : Int32), iv (2 : Int32)] [(.int (2 : Int32)), (.ref qa), (.double x2), (.int (1 : Int32))])) rfl rfl (hb hby own_dm_d59)) ?_
              refine own_go (B := (s₁.setTop (mkF m 61 #[rv pa, rv qa, iv pe, iv (1 : Int32), iv (2 : Int32)] [(.int (own_c x2 y2)), (.int (1 : Int32))]))) (fun t k => XS.dcmpS (x := x2) (y := y2) (v := (own_c x2 y2)) X0.here hx rfl (hb hby own_dm_d60) rfl rfl k) ?_
              refine own_if X0 hx (hb hby own_dm_d61) (pc' := 68) (pn := 64) (by decide) (by decide) rfl (fun (hc_23 : ¬ (0 : Int32) < (own_c x2 y2)) => ?_) (fun (hc_23 : (0 : Int32) < (own_c x2 y2)) => ?_)
              · refine own_go (B := (s₁.setTop (mkF m 69 #[rv pa, rv qa, iv pe, iv (1 : Int32), iv (2 : Int32)] [(.int (0 : Int32)), (.int (1 : Int32))]))) (fun t k => own_iconst (v := (0 : Int32)) X0.here hx rfl (hb hby own_dm_d68) (by decide) k) ?_
                refine own_go (B := (s₁.setTop (mkF m 70 #[rv pa, rv qa, iv pe, iv (1 : Int32), iv (2 : Int32)] [(.int ((1 : Int32) ||| (0 : Int32)))]))) (fun t k => XS.ior (x := (1 : Int32)) (y := (0 : Int32)) X0.here hx rfl (hb hby own_dm_d69) rfl k) ?_
                rw [show ((1 : Int32) ||| (0 : Int32)) = (1 : Int32) from by decide]
                refine own_go (B := (s₁.setTop (mkF m 71 #[rv pa, rv qa, iv pe, iv (1 : Int32), iv (2 : Int32)] []))) (fun t k => XS.istoreN X0.here hx rfl (hb hby own_dm_d70) rfl (l' := #[rv pa, rv qa, iv pe, iv (1 : Int32), iv (2 : Int32)]) rfl k) ?_
                refine own_go (B := (s₁.setTop (mkF m 74 #[rv pa, rv qa, iv pe, iv (1 : Int32), iv (3 : Int32)] []))) (fun t k => XS.iinc X0.here hx rfl (hb hby own_dm_d71) rfl (l' := #[rv pa, rv qa, iv pe, iv (1 : Int32), iv (3 : Int32)]) rfl k) ?_
                refine own_go (B := (s₁.setTop (mkF m 30 #[rv pa, rv qa, iv pe, iv (1 : Int32), iv (3 : Int32)] []))) (fun t k => XS.goto X0.here hx rfl (pc0 := 74) (pc' := 30) rfl (hb hby own_dm_d74) (by decide) (by decide) k) ?_
                refine own_go (B := (s₁.setTop (mkF m 32 #[rv pa, rv qa, iv pe, iv (1 : Int32), iv (3 : Int32)] [(.int (3 : Int32))]))) (fun t k => XS.iload X0.here hx rfl (hb hby own_dm_d30) rfl k) ?_
                refine own_go (B := (s₁.setTop (mkF m 33 #[rv pa, rv qa, iv pe, iv (1 : Int32), iv (3 : Int32)] [(.ref pa), (.int (3 : Int32))]))) (fun t k => XS.aloadN X0.here hx rfl (hb hby own_dm_d32) rfl rfl k) ?_
                refine own_go (B := (s₁.setTop (mkF m 34 #[rv pa, rv qa, iv pe, iv (1 : Int32), iv (3 : Int32)] [(.int (3 : Int32)), (.int (3 : Int32))]))) (own_alen X0 hx hZ e0 V0 (n := (3 : Int32)) (own_lenL (n := 3) rfl (by decide)) (g := (mkF m 33 #[rv pa, rv qa, iv pe, iv (1 : Int32), iv (3 : Int32)] [(.ref pa), (.int (3 : Int32))])) rfl rfl (hb hby own_dm_d33)) ?_
                have hc_24 : ¬ (3 : Int32) < (3 : Int32) := (by decide)
                refine own_icmpY X0 hx (hb hby own_dm_d34) (pc' := 77) (by decide) (by decide) hc_24 ?_
                refine own_go (B := (s₁.setTop (mkF m 78 #[rv pa, rv qa, iv pe, iv (1 : Int32), iv (3 : Int32)] [(.int (1 : Int32))]))) (fun t k => XS.iloadN X0.here hx rfl (hb hby own_dm_d77) rfl k) ?_
                exact own_retZ X0 hx hlk Bd.returns (hb hby own_dm_d78) (by decide) (own_b rfl) (own_b rfl) (Q := (own_dm_Q Z pa qa pe x0 x1 x2 y0 y1 y2 h0 n0)) ⟨by rw [he]; simp +decide [own_dom, own_okk, own_ss, own_and, hc_1, hc_2, hc_3, hc_4, hc_18, hc_19, hc_20, hc_21, hc_22, hc_23, hc_24], N0, e0⟩
              · refine own_go (B := (s₁.setTop (mkF m 65 #[rv pa, rv qa, iv pe, iv (1 : Int32), iv (2 : Int32)] [(.int (1 : Int32)), (.int (1 : Int32))]))) (fun t k => own_iconst (v := (1 : Int32)) X0.here hx rfl (hb hby own_dm_d64) (by decide) k) ?_
                refine own_go (B := (s₁.setTop (mkF m 69 #[rv pa, rv qa, iv pe, iv (1 : Int32), iv (2 : Int32)] [(.int (1 : Int32)), (.int (1 : Int32))]))) (fun t k => XS.goto X0.here hx rfl (pc0 := 65) (pc' := 69) rfl (hb hby own_dm_d65) (by decide) (by decide) k) ?_
                refine own_go (B := (s₁.setTop (mkF m 70 #[rv pa, rv qa, iv pe, iv (1 : Int32), iv (2 : Int32)] [(.int ((1 : Int32) ||| (1 : Int32)))]))) (fun t k => XS.ior (x := (1 : Int32)) (y := (1 : Int32)) X0.here hx rfl (hb hby own_dm_d69) rfl k) ?_
                rw [show ((1 : Int32) ||| (1 : Int32)) = (1 : Int32) from by decide]
                refine own_go (B := (s₁.setTop (mkF m 71 #[rv pa, rv qa, iv pe, iv (1 : Int32), iv (2 : Int32)] []))) (fun t k => XS.istoreN X0.here hx rfl (hb hby own_dm_d70) rfl (l' := #[rv pa, rv qa, iv pe, iv (1 : Int32), iv (2 : Int32)]) rfl k) ?_
                refine own_go (B := (s₁.setTop (mkF m 74 #[rv pa, rv qa, iv pe, iv (1 : Int32), iv (3 : Int32)] []))) (fun t k => XS.iinc X0.here hx rfl (hb hby own_dm_d71) rfl (l' := #[rv pa, rv qa, iv pe, iv (1 : Int32), iv (3 : Int32)]) rfl k) ?_
                refine own_go (B := (s₁.setTop (mkF m 30 #[rv pa, rv qa, iv pe, iv (1 : Int32), iv (3 : Int32)] []))) (fun t k => XS.goto X0.here hx rfl (pc0 := 74) (pc' := 30) rfl (hb hby own_dm_d74) (by decide) (by decide) k) ?_
                refine own_go (B := (s₁.setTop (mkF m 32 #[rv pa, rv qa, iv pe, iv (1 : Int32), iv (3 : Int32)] [(.int (3 : Int32))]))) (fun t k => XS.iload X0.here hx rfl (hb hby own_dm_d30) rfl k) ?_
                refine own_go (B := (s₁.setTop (mkF m 33 #[rv pa, rv qa, iv pe, iv (1 : Int32), iv (3 : Int32)] [(.ref pa), (.int (3 : Int32))]))) (fun t k => XS.aloadN X0.here hx rfl (hb hby own_dm_d32) rfl rfl k) ?_
                refine own_go (B := (s₁.setTop (mkF m 34 #[rv pa, rv qa, iv pe, iv (1 : Int32), iv (3 : Int32)] [(.int (3 : Int32)), (.int (3 : Int32))]))) (own_alen X0 hx hZ e0 V0 (n := (3 : Int32)) (own_lenL (n := 3) rfl (by decide)) (g := (mkF m 33 #[rv pa, rv qa, iv pe, iv (1 : Int32), iv (3 : Int32)] [(.ref pa), (.int (3 : Int32))])) rfl rfl (hb hby own_dm_d33)) ?_
                have hc_25 : ¬ (3 : Int32) < (3 : Int32) := (by decide)
                refine own_icmpY X0 hx (hb hby own_dm_d34) (pc' := 77) (by decide) (by decide) hc_25 ?_
                refine own_go (B := (s₁.setTop (mkF m 78 #[rv pa, rv qa, iv pe, iv (1 : Int32), iv (3 : Int32)] [(.int (1 : Int32))]))) (fun t k => XS.iloadN X0.here hx rfl (hb hby own_dm_d77) rfl k) ?_
                exact own_retZ X0 hx hlk Bd.returns (hb hby own_dm_d78) (by decide) (own_b rfl) (own_b rfl) (Q := (own_dm_Q Z pa qa pe x0 x1 x2 y0 y1 y2 h0 n0)) ⟨by rw [he]; simp +decide [own_dom, own_okk, own_ss, own_and, hc_1, hc_2, hc_3, hc_4, hc_18, hc_19, hc_20, hc_21, hc_22, hc_23, hc_25], N0, e0⟩
            · refine own_go (B := (s₁.setTop (mkF m 50 #[rv pa, rv qa, iv pe, iv (1 : Int32), iv (2 : Int32)] [(.int (0 : Int32))]))) (fun t k => own_iconst (v := (0 : Int32)) X0.here hx rfl (hb hby own_dm_d49) (by decide) k) ?_
              exact own_retZ X0 hx hlk Bd.returns (hb hby own_dm_d50) (by decide) (own_b rfl) (own_b rfl) (Q := (own_dm_Q Z pa qa pe x0 x1 x2 y0 y1 y2 h0 n0)) ⟨by rw [he]; simp +decide [own_dom, own_okk, own_ss, own_and, hc_1, hc_2, hc_3, hc_4, hc_18, hc_19, hc_20, hc_21, hc_22], N0, e0⟩
          · refine own_go (B := (s₁.setTop (mkF m 65 #[rv pa, rv qa, iv pe, iv (1 : Int32), iv (1 : Int32)] [(.int (1 : Int32)), (.int (1 : Int32))]))) (fun t k => own_iconst (v := (1 : Int32)) X0.here hx rfl (hb hby own_dm_d64) (by decide) k) ?_
            refine own_go (B := (s₁.setTop (mkF m 69 #[rv pa, rv qa, iv pe, iv (1 : Int32), iv (1 : Int32)] [(.int (1 : Int32)), (.int (1 : Int32))]))) (fun t k => XS.goto X0.here hx rfl (pc0 := 65) (pc' := 69) rfl (hb hby own_dm_d65) (by decide) (by decide) k) ?_
            refine own_go (B := (s₁.setTop (mkF m 70 #[rv pa, rv qa, iv pe, iv (1 : Int32), iv (1 : Int32)] [(.int ((1 : Int32) ||| (1 : Int32)))]))) (fun t k => XS.ior (x := (1 : Int32)) (y := (1 : Int32)) X0.here hx rfl (hb hby own_dm_d69) rfl k) ?_
            rw [show ((1 : Int32) ||| (1 : Int32)) = (1 : Int32) from by decide]
            refine own_go (B := (s₁.setTop (mkF m 71 #[rv pa, rv qa, iv pe, iv (1 : Int32), iv (1 : Int32)] []))) (fun t k => XS.istoreN X0.here hx rfl (hb hby own_dm_d70) rfl (l' := #[rv pa, rv qa, iv pe, iv (1 : Int32), iv (1 : Int32)]) rfl k) ?_
            refine own_go (B := (s₁.setTop (mkF m 74 #[rv pa, rv qa, iv pe, iv (1 : Int32), iv (2 : Int32)] []))) (fun t k => XS.iinc X0.here hx rfl (hb hby own_dm_d71) rfl (l' := #[rv pa, rv qa, iv pe, iv (1 : Int32), iv (2 : Int32)]) rfl k) ?_
            refine own_go (B := (s₁.setTop (mkF m 30 #[rv pa, rv qa, iv pe, iv (1 : Int32), iv (2 : Int32)] []))) (fun t k => XS.goto X0.here hx rfl (pc0 := 74) (pc' := 30) rfl (hb hby own_dm_d74) (by decide) (by decide) k) ?_
            refine own_go (B := (s₁.setTop (mkF m 32 #[rv pa, rv qa, iv pe, iv (1 : Int32), iv (2 : Int32)] [(.int (2 : Int32))]))) (fun t k => XS.iload X0.here hx rfl (hb hby own_dm_d30) rfl k) ?_
            refine own_go (B := (s₁.setTop (mkF m 33 #[rv pa, rv qa, iv pe, iv (1 : Int32), iv (2 : Int32)] [(.ref pa), (.int (2 : Int32))]))) (fun t k => XS.aloadN X0.here hx rfl (hb hby own_dm_d32) rfl rfl k) ?_
            refine own_go (B := (s₁.setTop (mkF m 34 #[rv pa, rv qa, iv pe, iv (1 : Int32), iv (2 : Int32)] [(.int (3 : Int32)), (.int (2 : Int32))]))) (own_alen X0 hx hZ e0 V0 (n := (3 : Int32)) (own_lenL (n := 3) rfl (by decide)) (g := (mkF m 33 #[rv pa, rv qa, iv pe, iv (1 : Int32), iv (2 : Int32)] [(.ref pa), (.int (2 : Int32))])) rfl rfl (hb hby own_dm_d33)) ?_
            have hc_26 : (2 : Int32) < (3 : Int32) := (by decide)
            refine own_icmpN X0 hx (hb hby own_dm_d34) (pn := 37) rfl hc_26 ?_
            refine own_go (B := (s₁.setTop (mkF m 38 #[rv pa, rv qa, iv pe, iv (1 : Int32), iv (2 : Int32)] [(.ref pa)]))) (fun t k => XS.aloadN X0.here hx rfl (hb hby own_dm_d37) rfl rfl k) ?_
            refine own_go (B := (s₁.setTop (mkF m 40 #[rv pa, rv qa, iv pe, iv (1 : Int32), iv (2 : Int32)] [(.int (2 : Int32)), (.ref pa)]))) (fun t k => XS.iload X0.here hx rfl (hb hby own_dm_d38) rfl k) ?_
            refine own_go (B := (s₁.setTop (mkF m 41 #[rv pa, rv qa, iv pe, iv (1 : Int32), iv (2 : Int32)] [(.double x2)]))) (own_ldD X0 hx hZ e0 V0 (v := (.double x2)) (by decide) rfl (g := (mkF m 40 #[rv pa, rv qa, iv pe, iv (1 : Int32), iv (2 : Int32)] [(.int (2 : Int32)), (.ref pa)])) rfl rfl (hb hby own_dm_d40)) ?_
            refine own_go (B := (s₁.setTop (mkF m 42 #[rv pa, rv qa, iv pe, iv (1 : Int32), iv (2 : Int32)] [(.ref qa), (.double x2)]))) (fun t k => XS.aloadN X0.here hx rfl (hb hby own_dm_d41) rfl rfl k) ?_
            refine own_go (B := (s₁.setTop (mkF m 44 #[rv pa, rv qa, iv pe, iv (1 : Int32), iv (2 : Int32)] [(.int (2 : Int32)), (.ref qa), (.double x2)]))) (fun t k => XS.iload X0.here hx rfl (hb hby own_dm_d42) rfl k) ?_
            refine own_go (B := (s₁.setTop (mkF m 45 #[rv pa, rv qa, iv pe, iv (1 : Int32), iv (2 : Int32)] [(.double y2), (.double x2)]))) (own_ldD X0 hx hZ e0 V1 (v := (.double y2)) (by decide) rfl (g := (mkF m 44 #[rv pa, rv qa, iv pe, iv (1 : Int32), iv (2 : Int32)] [(.int (2 : Int32)), (.ref qa), (.double x2)])) rfl rfl (hb hby own_dm_d44)) ?_
            refine own_go (B := (s₁.setTop (mkF m 46 #[rv pa, rv qa, iv pe, iv (1 : Int32), iv (2 : Int32)] [(.int (own_c x2 y2))]))) (fun t k => XS.dcmpS (x := x2) (y := y2) (v := (own_c x2 y2)) X0.here hx rfl (hb hby own_dm_d45) rfl rfl k) ?_
            refine own_if X0 hx (hb hby own_dm_d46) (pc' := 51) (pn := 49) (by decide) (by decide) rfl (fun (hc_27 : ¬ (own_c x2 y2) < (0 : Int32)) => ?_) (fun (hc_27 : (own_c x2 y2) < (0 : Int32)) => ?_)
            · refine own_go (B := (s₁.setTop (mkF m 52 #[rv pa, rv qa, iv pe, iv (1 : Int32), iv (2 : Int32)] [(.int (1 : Int32))]))) (fun t k => XS.iloadN X0.here hx rfl (hb hby own_dm_d51) rfl k) ?_
              refine own_go (B := (s₁.setTop (mkF m 53 #[rv pa, rv qa, iv pe, iv (1 : Int32), iv (2 : Int32)] [(.ref pa), (.int (1 : Int32))]))) (fun t k => XS.aloadN X0.here hx rfl (hb hby own_dm_d52) rfl rfl k) ?_
              refine own_go (B := (s₁.setTop (mkF m 55 #[rv pa, rv qa, iv pe, iv (1 : Int32), iv (2 : Int32)] [(.int (2 : Int32)), (.ref pa), (.int (1 : Int32))]))) (fun t k => XS.iload X0.here hx rfl (hb hby own_dm_d53) rfl k) ?_
              refine own_go (B := (s₁.setTop (mkF m 56 #[rv pa, rv qa, iv pe, iv (1 : Int32), iv (2 : Int32)] [(.double x2), (.int (1 : Int32))]))) (own_ldD X0 hx hZ e0 V0 (v := (.double x2)) (by decide) rfl (g := (mkF m 55 #[rv pa, rv qa, iv pe, iv (1 : Int32), iv (2 : Int32)] [(.int (2 : Int32)), (.ref pa), (.int (1 : Int32))])) rfl rfl (hb hby own_dm_d55)) ?_
              refine own_go (B := (s₁.setTop (mkF m 57 #[rv pa, rv qa, iv pe, iv (1 : Int32), iv (2 : Int32)] [(.ref qa), (.double x2), (.int (1 : Int32))]))) (fun t k => XS.aloadN X0.here hx rfl (hb hby own_dm_d56) rfl rfl k) ?_
              refine own_go (B := (s₁.setTop (mkF m 59 #[rv pa, rv qa, iv pe, iv (1 : Int32), iv (2 : Int32)] [(.int (2 : Int32)), (.ref qa), (.double x2), (.int (1 : Int32))]))) (fun t k => XS.iload X0.here hx rfl (hb hby own_dm_d57) rfl k) ?_
              refine own_go (B := (s₁.setTop (mkF m 60 #[rv pa, rv qa, iv pe, iv (1 : Int32), iv (2 : Int32)] [(.double y2), (.double x2), (.int (1 : Int32))]))) (own_ldD X0 hx hZ e0 V1 (v := (.double y2)) (by decide) rfl (g := (mkF m 59 #[rv pa, rv qa, iv pe, iv (1 : Int32), iv (2 : Int32)] [(.int (2 : Int32)), (.ref qa), (.double x2), (.int (1 : Int32))])) rfl rfl (hb hby own_dm_d59)) ?_
              refine own_go (B := (s₁.setTop (mkF m 61 #[rv pa, rv qa, iv pe, iv (1 : Int32), iv (2 : Int32)] [(.int (own_c x2 y2)), (.int (1 : Int32))]))) (fun t k => XS.dcmpS (x := x2) (y := y2) (v := (own_c x2 y2)) X0.here hx rfl (hb hby own_dm_d60) rfl rfl k) ?_
              refine own_if X0 hx (hb hby own_dm_d61) (pc' := 68) (pn := 64) (by decide) (by decide) rfl (fun (hc_28 : ¬ (0 : Int32) < (own_c x2 y2)) => ?_) (fun (hc_28 : (0 : Int32) < (own_c x2 y2)) => ?_)
              · refine own_go (B := (s₁.setTop (mkF m 69 #[rv pa, rv qa, iv pe, iv (1 : Int32), iv (2 : Int32)] [(.int (0 : Int32)), (.int (1 : Int32))]))) (fun t k => own_iconst (v := (0 : Int32)) X0.here hx rfl (hb hby own_dm_d68) (by decide) k) ?_
                refine own_go (B := (s₁.setTop (mkF m 70 #[rv pa, rv qa, iv pe, iv (1 : Int32), iv (2 : Int32)] [(.int ((1 : Int32) ||| (0 : Int32)))]))) (fun t k => XS.ior (x := (1 : Int32)) (y := (0 : Int32)) X0.here hx rfl (hb hby own_dm_d69) rfl k) ?_
                rw [show ((1 : Int32) ||| (0 : Int32)) = (1 : Int32) from by decide]
                refine own_go (B := (s₁.setTop (mkF m 71 #[rv pa, rv qa, iv pe, iv (1 : Int32), iv (2 : Int32)] []))) (fun t k => XS.istoreN X0.here hx rfl (hb hby own_dm_d70) rfl (l' := #[rv pa, rv qa, iv pe, iv (1 : Int32), iv (2 : Int32)]) rfl k) ?_
                refine own_go (B := (s₁.setTop (mkF m 74 #[rv pa, rv qa, iv pe, iv (1 : Int32), iv (3 : Int32)] []))) (fun t k => XS.iinc X0.here hx rfl (hb hby own_dm_d71) rfl (l' := #[rv pa, rv qa, iv pe, iv (1 : Int32), iv (3 : Int32)]) rfl k) ?_
                refine own_go (B := (s₁.setTop (mkF m 30 #[rv pa, rv qa, iv pe, iv (1 : Int32), iv (3 : Int32)] []))) (fun t k => XS.goto X0.here hx rfl (pc0 := 74) (pc' := 30) rfl (hb hby own_dm_d74) (by decide) (by decide) k) ?_
                refine own_go (B := (s₁.setTop (mkF m 32 #[rv pa, rv qa, iv pe, iv (1 : Int32), iv (3 : Int32)] [(.int (3 : Int32))]))) (fun t k => XS.iload X0.here hx rfl (hb hby own_dm_d30) rfl k) ?_
                refine own_go (B := (s₁.setTop (mkF m 33 #[rv pa, rv qa, iv pe, iv (1 : Int32), iv (3 : Int32)] [(.ref pa), (.int (3 : Int32))]))) (fun t k => XS.aloadN X0.here hx rfl (hb hby own_dm_d32) rfl rfl k) ?_
                refine own_go (B := (s₁.setTop (mkF m 34 #[rv pa, rv qa, iv pe, iv (1 : Int32), iv (3 : Int32)] [(.int (3 : Int32)), (.int (3 : Int32))]))) (own_alen X0 hx hZ e0 V0 (n := (3 : Int32)) (own_lenL (n := 3) rfl (by decide)) (g := (mkF m 33 #[rv pa, rv qa, iv pe, iv (1 : Int32), iv (3 : Int32)] [(.ref pa), (.int (3 : Int32))])) rfl rfl (hb hby own_dm_d33)) ?_
                have hc_29 : ¬ (3 : Int32) < (3 : Int32) := (by decide)
                refine own_icmpY X0 hx (hb hby own_dm_d34) (pc' := 77) (by decide) (by decide) hc_29 ?_
                refine own_go (B := (s₁.setTop (mkF m 78 #[rv pa, rv qa, iv pe, iv (1 : Int32), iv (3 : Int32)] [(.int (1 : Int32))]))) (fun t k => XS.iloadN X0.here hx rfl (hb hby own_dm_d77) rfl k) ?_
                exact own_retZ X0 hx hlk Bd.returns (hb hby own_dm_d78) (by decide) (own_b rfl) (own_b rfl) (Q := (own_dm_Q Z pa qa pe x0 x1 x2 y0 y1 y2 h0 n0)) ⟨by rw [he]; simp +decide [own_dom, own_okk, own_ss, own_and, hc_1, hc_2, hc_3, hc_4, hc_18, hc_19, hc_20, hc_26, hc_27, hc_28, hc_29], N0, e0⟩
              · refine own_go (B := (s₁.setTop (mkF m 65 #[rv pa, rv qa, iv pe, iv (1 : Int32), iv (2 : Int32)] [(.int (1 : Int32)), (.int (1 : Int32))]))) (fun t k => own_iconst (v := (1 : Int32)) X0.here hx rfl (hb hby own_dm_d64) (by decide) k) ?_
                refine own_go (B := (s₁.setTop (mkF m 69 #[rv pa, rv qa, iv pe, iv (1 : Int32), iv (2 : Int32)] [(.int (1 : Int32)), (.int (1 : Int32))]))) (fun t k => XS.goto X0.here hx rfl (pc0 := 65) (pc' := 69) rfl (hb hby own_dm_d65) (by decide) (by decide) k) ?_
                refine own_go (B := (s₁.setTop (mkF m 70 #[rv pa, rv qa, iv pe, iv (1 : Int32), iv (2 : Int32)] [(.int ((1 : Int32) ||| (1 : Int32)))]))) (fun t k => XS.ior (x := (1 : Int32)) (y := (1 : Int32)) X0.here hx rfl (hb hby own_dm_d69) rfl k) ?_
                rw [show ((1 : Int32) ||| (1 : Int32)) = (1 : Int32) from by decide]
                refine own_go (B := (s₁.setTop (mkF m 71 #[rv pa, rv qa, iv pe, iv (1 : Int32), iv (2 : Int32)] []))) (fun t k => XS.istoreN X0.here hx rfl (hb hby own_dm_d70) rfl (l' := #[rv pa, rv qa, iv pe, iv (1 : Int32), iv (2 : Int32)]) rfl k) ?_
                refine own_go (B := (s₁.setTop (mkF m 74 #[rv pa, rv qa, iv pe, iv (1 : Int32), iv (3 : Int32)] []))) (fun t k => XS.iinc X0.here hx rfl (hb hby own_dm_d71) rfl (l' := #[rv pa, rv qa, iv pe, iv (1 : Int32), iv (3 : Int32)]) rfl k) ?_
                refine own_go (B := (s₁.setTop (mkF m 30 #[rv pa, rv qa, iv pe, iv (1 : Int32), iv (3 : Int32)] []))) (fun t k => XS.goto X0.here hx rfl (pc0 := 74) (pc' := 30) rfl (hb hby own_dm_d74) (by decide) (by decide) k) ?_
                refine own_go (B := (s₁.setTop (mkF m 32 #[rv pa, rv qa, iv pe, iv (1 : Int32), iv (3 : Int32)] [(.int (3 : Int32))]))) (fun t k => XS.iload X0.here hx rfl (hb hby own_dm_d30) rfl k) ?_
                refine own_go (B := (s₁.setTop (mkF m 33 #[rv pa, rv qa, iv pe, iv (1 : Int32), iv (3 : Int32)] [(.ref pa), (.int (3 : Int32))]))) (fun t k => XS.aloadN X0.here hx rfl (hb hby own_dm_d32) rfl rfl k) ?_
                refine own_go (B := (s₁.setTop (mkF m 34 #[rv pa, rv qa, iv pe, iv (1 : Int32), iv (3 : Int32)] [(.int (3 : Int32)), (.int (3 : Int32))]))) (own_alen X0 hx hZ e0 V0 (n := (3 : Int32)) (own_lenL (n := 3) rfl (by decide)) (g := (mkF m 33 #[rv pa, rv qa, iv pe, iv (1 : Int32), iv (3 : Int32)] [(.ref pa), (.int (3 : Int32))])) rfl rfl (hb hby own_dm_d33)) ?_
                have hc_30 : ¬ (3 : Int32) < (3 : Int32) := (by decide)
                refine own_icmpY X0 hx (hb hby own_dm_d34) (pc' := 77) (by decide) (by decide) hc_30 ?_
                refine own_go (B := (s₁.setTop (mkF m 78 #[rv pa, rv qa, iv pe, iv (1 : Int32), iv (3 : Int32)] [(.int (1 : Int32))]))) (fun t k => XS.iloadN X0.here hx rfl (hb hby own_dm_d77) rfl k) ?_
                exact own_retZ X0 hx hlk Bd.returns (hb hby own_dm_d78) (by decide) (own_b rfl) (own_b rfl) (Q := (own_dm_Q Z pa qa pe x0 x1 x2 y0 y1 y2 h0 n0)) ⟨by rw [he]; simp +decide [own_dom, own_okk, own_ss, own_and, hc_1, hc_2, hc_3, hc_4, hc_18, hc_19, hc_20, hc_26, hc_27, hc_28, hc_30], N0, e0⟩
            · refine own_go (B := (s₁.setTop (mkF m 50 #[rv pa, rv qa, iv pe, iv (1 : Int32), iv (2 : Int32)] [(.int (0 : Int32))]))) (fun t k => own_iconst (v := (0 : Int32)) X0.here hx rfl (hb hby own_dm_d49) (by decide) k) ?_
              exact own_retZ X0 hx hlk Bd.returns (hb hby own_dm_d50) (by decide) (own_b rfl) (own_b rfl) (Q := (own_dm_Q Z pa qa pe x0 x1 x2 y0 y1 y2 h0 n0)) ⟨by rw [he]; simp +decide [own_dom, own_okk, own_ss, own_and, hc_1, hc_2, hc_3, hc_4, hc_18, hc_19, hc_20, hc_26, hc_27], N0, e0⟩
        · refine own_go (B := (s₁.setTop (mkF m 50 #[rv pa, rv qa, iv pe, iv (1 : Int32), iv (1 : Int32)] [(.int (0 : Int32))]))) (fun t k => own_iconst (v := (0 : Int32)) X0.here hx rfl (hb hby own_dm_d49) (by decide) k) ?_
          exact own_retZ X0 hx hlk Bd.returns (hb hby own_dm_d50) (by decide) (own_b rfl) (own_b rfl) (Q := (own_dm_Q Z pa qa pe x0 x1 x2 y0 y1 y2 h0 n0)) ⟨by rw [he]; simp +decide [own_dom, own_okk, own_ss, own_and, hc_1, hc_2, hc_3, hc_4, hc_18, hc_19], N0, e0⟩
    · refine own_go (B := (s₁.setTop (mkF m 50 #[rv pa, rv qa, iv pe, iv (0 : Int32), iv (0 : Int32)] [(.int (0 : Int32))]))) (fun t k => own_iconst (v := (0 : Int32)) X0.here hx rfl (hb hby own_dm_d49) (by decide) k) ?_
      exact own_retZ X0 hx hlk Bd.returns (hb hby own_dm_d50) (by decide) (own_b rfl) (own_b rfl) (Q := (own_dm_Q Z pa qa pe x0 x1 x2 y0 y1 y2 h0 n0)) ⟨by rw [he]; simp +decide [own_dom, own_okk, own_ss, own_and, hc_1, hc_2, hc_3], N0, e0⟩
  · refine own_go (B := (s₁.setTop (mkF m 1 #[rv pa, rv qa, iv pe, .unset, .unset] [(.int (0 : Int32))]))) (fun t k => own_iconst (v := (0 : Int32)) X0.here hx rfl (hb hby own_dm_d0) (by decide) k) ?_
    refine own_go (B := (s₁.setTop (mkF m 2 #[rv pa, rv qa, iv pe, iv (0 : Int32), .unset] []))) (fun t k => XS.istoreN X0.here hx rfl (hb hby own_dm_d1) rfl (l' := #[rv pa, rv qa, iv pe, iv (0 : Int32), .unset]) rfl k) ?_
    refine own_go (B := (s₁.setTop (mkF m 3 #[rv pa, rv qa, iv pe, iv (0 : Int32), .unset] [(.int (0 : Int32))]))) (fun t k => XS.iloadN X0.here hx rfl (hb hby own_dm_d2) rfl k) ?_
    refine own_go (B := (s₁.setTop (mkF m 4 #[rv pa, rv qa, iv pe, iv (0 : Int32), .unset] [(.int pe), (.int (0 : Int32))]))) (fun t k => XS.iloadN X0.here hx rfl (hb hby own_dm_d3) rfl k) ?_
    have hc_31 : (0 : Int32) < pe := (by rw [he]; decide)
    refine own_icmpN X0 hx (hb hby own_dm_d4) (pn := 7) rfl hc_31 ?_
    refine own_go (B := (s₁.setTop (mkF m 8 #[rv pa, rv qa, iv pe, iv (0 : Int32), .unset] [(.ref pa)]))) (fun t k => XS.aloadN X0.here hx rfl (hb hby own_dm_d7) rfl rfl k) ?_
    refine own_go (B := (s₁.setTop (mkF m 9 #[rv pa, rv qa, iv pe, iv (0 : Int32), .unset] [(.int (0 : Int32)), (.ref pa)]))) (fun t k => XS.iloadN X0.here hx rfl (hb hby own_dm_d8) rfl k) ?_
    refine own_go (B := (s₁.setTop (mkF m 10 #[rv pa, rv qa, iv pe, iv (0 : Int32), .unset] [(.double x0)]))) (own_ldD X0 hx hZ e0 V0 (v := (.double x0)) (by decide) rfl (g := (mkF m 9 #[rv pa, rv qa, iv pe, iv (0 : Int32), .unset] [(.int (0 : Int32)), (.ref pa)])) rfl rfl (hb hby own_dm_d9)) ?_
    refine own_go (B := (s₁.setTop (mkF m 11 #[rv pa, rv qa, iv pe, iv (0 : Int32), .unset] [(.ref qa), (.double x0)]))) (fun t k => XS.aloadN X0.here hx rfl (hb hby own_dm_d10) rfl rfl k) ?_
    refine own_go (B := (s₁.setTop (mkF m 12 #[rv pa, rv qa, iv pe, iv (0 : Int32), .unset] [(.int (0 : Int32)), (.ref qa), (.double x0)]))) (fun t k => XS.iloadN X0.here hx rfl (hb hby own_dm_d11) rfl k) ?_
    refine own_go (B := (s₁.setTop (mkF m 13 #[rv pa, rv qa, iv pe, iv (0 : Int32), .unset] [(.double y0), (.double x0)]))) (own_ldD X0 hx hZ e0 V1 (v := (.double y0)) (by decide) rfl (g := (mkF m 12 #[rv pa, rv qa, iv pe, iv (0 : Int32), .unset] [(.int (0 : Int32)), (.ref qa), (.double x0)])) rfl rfl (hb hby own_dm_d12)) ?_
    refine own_go (B := (s₁.setTop (mkF m 14 #[rv pa, rv qa, iv pe, iv (0 : Int32), .unset] [(.int (own_c x0 y0))]))) (fun t k => XS.dcmpS (x := x0) (y := y0) (v := (own_c x0 y0)) X0.here hx rfl (hb hby own_dm_d13) rfl rfl k) ?_
    refine own_if X0 hx (hb hby own_dm_d14) (pc' := 19) (pn := 17) (by decide) (by decide) rfl (fun (hc_32 : (own_c x0 y0) = (0 : Int32)) => ?_) (fun (hc_32 : ¬ (own_c x0 y0) = (0 : Int32)) => ?_)
    · refine own_go (B := (s₁.setTop (mkF m 22 #[rv pa, rv qa, iv pe, iv (1 : Int32), .unset] []))) (fun t k => XS.iinc X0.here hx rfl (hb hby own_dm_d19) rfl (l' := #[rv pa, rv qa, iv pe, iv (1 : Int32), .unset]) rfl k) ?_
      refine own_go (B := (s₁.setTop (mkF m 2 #[rv pa, rv qa, iv pe, iv (1 : Int32), .unset] []))) (fun t k => XS.goto X0.here hx rfl (pc0 := 22) (pc' := 2) rfl (hb hby own_dm_d22) (by decide) (by decide) k) ?_
      refine own_go (B := (s₁.setTop (mkF m 3 #[rv pa, rv qa, iv pe, iv (1 : Int32), .unset] [(.int (1 : Int32))]))) (fun t k => XS.iloadN X0.here hx rfl (hb hby own_dm_d2) rfl k) ?_
      refine own_go (B := (s₁.setTop (mkF m 4 #[rv pa, rv qa, iv pe, iv (1 : Int32), .unset] [(.int pe), (.int (1 : Int32))]))) (fun t k => XS.iloadN X0.here hx rfl (hb hby own_dm_d3) rfl k) ?_
      have hc_33 : ¬ (1 : Int32) < pe := (by rw [he]; decide)
      refine own_icmpY X0 hx (hb hby own_dm_d4) (pc' := 25) (by decide) (by decide) hc_33 ?_
      refine own_go (B := (s₁.setTop (mkF m 26 #[rv pa, rv qa, iv pe, iv (1 : Int32), .unset] [(.int (0 : Int32))]))) (fun t k => own_iconst (v := (0 : Int32)) X0.here hx rfl (hb hby own_dm_d25) (by decide) k) ?_
      refine own_go (B := (s₁.setTop (mkF m 27 #[rv pa, rv qa, iv pe, iv (0 : Int32), .unset] []))) (fun t k => XS.istoreN X0.here hx rfl (hb hby own_dm_d26) rfl (l' := #[rv pa, rv qa, iv pe, iv (0 : Int32), .unset]) rfl k) ?_
      refine own_go (B := (s₁.setTop (mkF m 28 #[rv pa, rv qa, iv pe, iv (0 : Int32), .unset] [(.int pe)]))) (fun t k => XS.iloadN X0.here hx rfl (hb hby own_dm_d27) rfl k) ?_
      refine own_cast (B := (s₁.setTop (mkF m 28 #[rv pa, rv qa, iv pe, iv (0 : Int32), .unset] [(.int (1 : Int32))]))) (by rw [he]) ?_
      refine own_go (B := (s₁.setTop (mkF m 30 #[rv pa, rv qa, iv pe, iv (0 : Int32), iv (1 : Int32)] []))) (fun t k => XS.istore X0.here hx rfl (hb hby own_dm_d28) rfl (l' := #[rv pa, rv qa, iv pe, iv (0 : Int32), iv (1 : Int32)]) rfl k) ?_
      refine own_go (B := (s₁.setTop (mkF m 32 #[rv pa, rv qa, iv pe, iv (0 : Int32), iv (1 : Int32)] [(.int (1 : Int32))]))) (fun t k => XS.iload X0.here hx rfl (hb hby own_dm_d30) rfl k) ?_
      refine own_go (B := (s₁.setTop (mkF m 33 #[rv pa, rv qa, iv pe, iv (0 : Int32), iv (1 : Int32)] [(.ref pa), (.int (1 : Int32))]))) (fun t k => XS.aloadN X0.here hx rfl (hb hby own_dm_d32) rfl rfl k) ?_
      refine own_go (B := (s₁.setTop (mkF m 34 #[rv pa, rv qa, iv pe, iv (0 : Int32), iv (1 : Int32)] [(.int (3 : Int32)), (.int (1 : Int32))]))) (own_alen X0 hx hZ e0 V0 (n := (3 : Int32)) (own_lenL (n := 3) rfl (by decide)) (g := (mkF m 33 #[rv pa, rv qa, iv pe, iv (0 : Int32), iv (1 : Int32)] [(.ref pa), (.int (1 : Int32))])) rfl rfl (hb hby own_dm_d33)) ?_
      have hc_34 : (1 : Int32) < (3 : Int32) := (by decide)
      refine own_icmpN X0 hx (hb hby own_dm_d34) (pn := 37) rfl hc_34 ?_
      refine own_go (B := (s₁.setTop (mkF m 38 #[rv pa, rv qa, iv pe, iv (0 : Int32), iv (1 : Int32)] [(.ref pa)]))) (fun t k => XS.aloadN X0.here hx rfl (hb hby own_dm_d37) rfl rfl k) ?_
      refine own_go (B := (s₁.setTop (mkF m 40 #[rv pa, rv qa, iv pe, iv (0 : Int32), iv (1 : Int32)] [(.int (1 : Int32)), (.ref pa)]))) (fun t k => XS.iload X0.here hx rfl (hb hby own_dm_d38) rfl k) ?_
      refine own_go (B := (s₁.setTop (mkF m 41 #[rv pa, rv qa, iv pe, iv (0 : Int32), iv (1 : Int32)] [(.double x1)]))) (own_ldD X0 hx hZ e0 V0 (v := (.double x1)) (by decide) rfl (g := (mkF m 40 #[rv pa, rv qa, iv pe, iv (0 : Int32), iv (1 : Int32)] [(.int (1 : Int32)), (.ref pa)])) rfl rfl (hb hby own_dm_d40)) ?_
      refine own_go (B := (s₁.setTop (mkF m 42 #[rv pa, rv qa, iv pe, iv (0 : Int32), iv (1 : Int32)] [(.ref qa), (.double x1)]))) (fun t k => XS.aloadN X0.here hx rfl (hb hby own_dm_d41) rfl rfl k) ?_
      refine own_go (B := (s₁.setTop (mkF m 44 #[rv pa, rv qa, iv pe, iv (0 : Int32), iv (1 : Int32)] [(.int (1 : Int32)), (.ref qa), (.double x1)]))) (fun t k => XS.iload X0.here hx rfl (hb hby own_dm_d42) rfl k) ?_
      refine own_go (B := (s₁.setTop (mkF m 45 #[rv pa, rv qa, iv pe, iv (0 : Int32), iv (1 : Int32)] [(.double y1), (.double x1)]))) (own_ldD X0 hx hZ e0 V1 (v := (.double y1)) (by decide) rfl (g := (mkF m 44 #[rv pa, rv qa, iv pe, iv (0 : Int32), iv (1 : Int32)] [(.int (1 : Int32)), (.ref qa), (.double x1)])) rfl rfl (hb hby own_dm_d44)) ?_
      refine own_go (B := (s₁.setTop (mkF m 46 #[rv pa, rv qa, iv pe, iv (0 : Int32), iv (1 : Int32)] [(.int (own_c x1 y1))]))) (fun t k => XS.dcmpS (x := x1) (y := y1) (v := (own_c x1 y1)) X0.here hx rfl (hb hby own_dm_d45) rfl rfl k) ?_
      refine own_if X0 hx (hb hby own_dm_d46) (pc' := 51) (pn := 49) (by decide) (by decide) rfl (fun (hc_35 : ¬ (own_c x1 y1) < (0 : Int32)) => ?_) (fun (hc_35 : (own_c x1 y1) < (0 : Int32)) => ?_)
      · refine own_go (B := (s₁.setTop (mkF m 52 #[rv pa, rv qa, iv pe, iv (0 : Int32), iv (1 : Int32)] [(.int (0 : Int32))]))) (fun t k => XS.iloadN X0.here hx rfl (hb hby own_dm_d51) rfl k) ?_
        refine own_go (B := (s₁.setTop (mkF m 53 #[rv pa, rv qa, iv pe, iv (0 : Int32), iv (1 : Int32)] [(.ref pa), (.int (0 : Int32))]))) (fun t k => XS.aloadN X0.here hx rfl (hb hby own_dm_d52) rfl rfl k) ?_
        refine own_go (B := (s₁.setTop (mkF m 55 #[rv pa, rv qa, iv pe, iv (0 : Int32), iv (1 : Int32)] [(.int (1 : Int32)), (.ref pa), (.int (0 : Int32))]))) (fun t k => XS.iload X0.here hx rfl (hb hby own_dm_d53) rfl k) ?_
        refine own_go (B := (s₁.setTop (mkF m 56 #[rv pa, rv qa, iv pe, iv (0 : Int32), iv (1 : Int32)] [(.double x1), (.int (0 : Int32))]))) (own_ldD X0 hx hZ e0 V0 (v := (.double x1)) (by decide) rfl (g := (mkF m 55 #[rv pa, rv qa, iv pe, iv (0 : Int32), iv (1 : Int32)] [(.int (1 : Int32)), (.ref pa), (.int (0 : Int32))])) rfl rfl (hb hby own_dm_d55)) ?_
        refine own_go (B := (s₁.setTop (mkF m 57 #[rv pa, rv qa, iv pe, iv (0 : Int32), iv (1 : Int32)] [(.ref qa), (.double x1), (.int (0 : Int32))]))) (fun t k => XS.aloadN X0.here hx rfl (hb hby own_dm_d56) rfl rfl k) ?_
        refine own_go (B := (s₁.setTop (mkF m 59 #[rv pa, rv qa, iv pe, iv (0 : Int32), iv (1 : Int32)] [(.int (1 : Int32)), (.ref qa), (.double x1), (.int (0 : Int32))]))) (fun t k => XS.iload X0.here hx rfl (hb hby own_dm_d57) rfl k) ?_
        refine own_go (B := (s₁.setTop (mkF m 60 #[rv pa, rv qa, iv pe, iv (0 : Int32), iv (1 : Int32)] [(.double y1), (.double x1), (.int (0 : Int32))]))) (own_ldD X0 hx hZ e0 V1 (v := (.double y1)) (by decide) rfl (g := (mkF m 59 #[rv pa, rv qa, iv pe, iv (0 : Int32), iv (1 : Int32)] [(.int (1 : Int32)), (.ref qa), (.double x1), (.int (0 : Int32))])) rfl rfl (hb hby own_dm_d59)) ?_
        refine own_go (B := (s₁.setTop (mkF m 61 #[rv pa, rv qa, iv pe, iv (0 : Int32), iv (1 : Int32)] [(.int (own_c x1 y1)), (.int (0 : Int32))]))) (fun t k => XS.dcmpS (x := x1) (y := y1) (v := (own_c x1 y1)) X0.here hx rfl (hb hby own_dm_d60) rfl rfl k) ?_
        refine own_if X0 hx (hb hby own_dm_d61) (pc' := 68) (pn := 64) (by decide) (by decide) rfl (fun (hc_36 : ¬ (0 : Int32) < (own_c x1 y1)) => ?_) (fun (hc_36 : (0 : Int32) < (own_c x1 y1)) => ?_)
        · refine own_go (B := (s₁.setTop (mkF m 69 #[rv pa, rv qa, iv pe, iv (0 : Int32), iv (1 : Int32)] [(.int (0 : Int32)), (.int (0 : Int32))]))) (fun t k => own_iconst (v := (0 : Int32)) X0.here hx rfl (hb hby own_dm_d68) (by decide) k) ?_
          refine own_go (B := (s₁.setTop (mkF m 70 #[rv pa, rv qa, iv pe, iv (0 : Int32), iv (1 : Int32)] [(.int ((0 : Int32) ||| (0 : Int32)))]))) (fun t k => XS.ior (x := (0 : Int32)) (y := (0 : Int32)) X0.here hx rfl (hb hby own_dm_d69) rfl k) ?_
          rw [show ((0 : Int32) ||| (0 : Int32)) = (0 : Int32) from by decide]
          refine own_go (B := (s₁.setTop (mkF m 71 #[rv pa, rv qa, iv pe, iv (0 : Int32), iv (1 : Int32)] []))) (fun t k => XS.istoreN X0.here hx rfl (hb hby own_dm_d70) rfl (l' := #[rv pa, rv qa, iv pe, iv (0 : Int32), iv (1 : Int32)]) rfl k) ?_
          refine own_go (B := (s₁.setTop (mkF m 74 #[rv pa, rv qa, iv pe, iv (0 : Int32), iv (2 : Int32)] []))) (fun t k => XS.iinc X0.here hx rfl (hb hby own_dm_d71) rfl (l' := #[rv pa, rv qa, iv pe, iv (0 : Int32), iv (2 : Int32)]) rfl k) ?_
          refine own_go (B := (s₁.setTop (mkF m 30 #[rv pa, rv qa, iv pe, iv (0 : Int32), iv (2 : Int32)] []))) (fun t k => XS.goto X0.here hx rfl (pc0 := 74) (pc' := 30) rfl (hb hby own_dm_d74) (by decide) (by decide) k) ?_
          refine own_go (B := (s₁.setTop (mkF m 32 #[rv pa, rv qa, iv pe, iv (0 : Int32), iv (2 : Int32)] [(.int (2 : Int32))]))) (fun t k => XS.iload X0.here hx rfl (hb hby own_dm_d30) rfl k) ?_
          refine own_go (B := (s₁.setTop (mkF m 33 #[rv pa, rv qa, iv pe, iv (0 : Int32), iv (2 : Int32)] [(.ref pa), (.int (2 : Int32))]))) (fun t k => XS.aloadN X0.here hx rfl (hb hby own_dm_d32) rfl rfl k) ?_
          refine own_go (B := (s₁.setTop (mkF m 34 #[rv pa, rv qa, iv pe, iv (0 : Int32), iv (2 : Int32)] [(.int (3 : Int32)), (.int (2 : Int32))]))) (own_alen X0 hx hZ e0 V0 (n := (3 : Int32)) (own_lenL (n := 3) rfl (by decide)) (g := (mkF m 33 #[rv pa, rv qa, iv pe, iv (0 : Int32), iv (2 : Int32)] [(.ref pa), (.int (2 : Int32))])) rfl rfl (hb hby own_dm_d33)) ?_
          have hc_37 : (2 : Int32) < (3 : Int32) := (by decide)
          refine own_icmpN X0 hx (hb hby own_dm_d34) (pn := 37) rfl hc_37 ?_
          refine own_go (B := (s₁.setTop (mkF m 38 #[rv pa, rv qa, iv pe, iv (0 : Int32), iv (2 : Int32)] [(.ref pa)]))) (fun t k => XS.aloadN X0.here hx rfl (hb hby own_dm_d37) rfl rfl k) ?_
          refine own_go (B := (s₁.setTop (mkF m 40 #[rv pa, rv qa, iv pe, iv (0 : Int32), iv (2 : Int32)] [(.int (2 : Int32)), (.ref pa)]))) (fun t k => XS.iload X0.here hx rfl (hb hby own_dm_d38) rfl k) ?_
          refine own_go (B := (s₁.setTop (mkF m 41 #[rv pa, rv qa, iv pe, iv (0 : Int32), iv (2 : Int32)] [(.double x2)]))) (own_ldD X0 hx hZ e0 V0 (v := (.double x2)) (by decide) rfl (g := (mkF m 40 #[rv pa, rv qa, iv pe, iv (0 : Int32), iv (2 : Int32)] [(.int (2 : Int32)), (.ref pa)])) rfl rfl (hb hby own_dm_d40)) ?_
          refine own_go (B := (s₁.setTop (mkF m 42 #[rv pa, rv qa, iv pe, iv (0 : Int32), iv (2 : Int32)] [(.ref qa), (.double x2)]))) (fun t k => XS.aloadN X0.here hx rfl (hb hby own_dm_d41) rfl rfl k) ?_
          refine own_go (B := (s₁.setTop (mkF m 44 #[rv pa, rv qa, iv pe, iv (0 : Int32), iv (2 : Int32)] [(.int (2 : Int32)), (.ref qa), (.double x2)]))) (fun t k => XS.iload X0.here hx rfl (hb hby own_dm_d42) rfl k) ?_
          refine own_go (B := (s₁.setTop (mkF m 45 #[rv pa, rv qa, iv pe, iv (0 : Int32), iv (2 : Int32)] [(.double y2), (.double x2)]))) (own_ldD X0 hx hZ e0 V1 (v := (.double y2)) (by decide) rfl (g := (mkF m 44 #[rv pa, rv qa, iv pe, iv (0 : Int32), iv (2 : Int32)] [(.int (2 : Int32)), (.ref qa), (.double x2)])) rfl rfl (hb hby own_dm_d44)) ?_
          refine own_go (B := (s₁.setTop (mkF m 46 #[rv pa, rv qa, iv pe, iv (0 : Int32), iv (2 : Int32)] [(.int (own_c x2 y2))]))) (fun t k => XS.dcmpS (x := x2) (y := y2) (v := (own_c x2 y2)) X0.here hx rfl (hb hby own_dm_d45) rfl rfl k) ?_
          refine own_if X0 hx (hb hby own_dm_d46) (pc' := 51) (pn := 49) (by decide) (by decide) rfl (fun (hc_38 : ¬ (own_c x2 y2) < (0 : Int32)) => ?_) (fun (hc_38 : (own_c x2 y2) < (0 : Int32)) => ?_)
          · refine own_go (B := (s₁.setTop (mkF m 52 #[rv pa, rv qa, iv pe, iv (0 : Int32), iv (2 : Int32)] [(.int (0 : Int32))]))) (fun t k => XS.iloadN X0.here hx rfl (hb hby own_dm_d51) rfl k) ?_
            refine own_go (B := (s₁.setTop (mkF m 53 #[rv pa, rv qa, iv pe, iv (0 : Int32), iv (2 : Int32)] [(.ref pa), (.int (0 : Int32))]))) (fun t k => XS.aloadN X0.here hx rfl (hb hby own_dm_d52) rfl rfl k) ?_
            refine own_go (B := (s₁.setTop (mkF m 55 #[rv pa, rv qa, iv pe, iv (0 : Int32), iv (2 : Int32)] [(.int (2 : Int32)), (.ref pa), (.int (0 : Int32))]))) (fun t k => XS.iload X0.here hx rfl (hb hby own_dm_d53) rfl k) ?_
            refine own_go (B := (s₁.setTop (mkF m 56 #[rv pa, rv qa, iv pe, iv (0 : Int32), iv (2 : Int32)] [(.double x2), (.int (0 : Int32))]))) (own_ldD X0 hx hZ e0 V0 (v := (.double x2)) (by decide) rfl (g := (mkF m 55 #[rv pa, rv qa, iv pe, iv (0 : Int32), iv (2 : Int32)] [(.int (2 : Int32)), (.ref pa), (.int (0 : Int32))])) rfl rfl (hb hby own_dm_d55)) ?_
            refine own_go (B := (s₁.setTop (mkF m 57 #[rv pa, rv qa, iv pe, iv (0 : Int32), iv (2 : Int32)] [(.ref qa), (.double x2), (.int (0 : Int32))]))) (fun t k => XS.aloadN X0.here hx rfl (hb hby own_dm_d56) rfl rfl k) ?_
            refine own_go (B := (s₁.setTop (mkF m 59 #[rv pa, rv qa, iv pe, iv (0 : Int32), iv (2 : Int32)] [(.int (2 : Int32)), (.ref qa), (.double x2), (.int (0 : Int32))]))) (fun t k => XS.iload X0.here hx rfl (hb hby own_dm_d57) rfl k) ?_
            refine own_go (B := (s₁.setTop (mkF m 60 #[rv pa, rv qa, iv pe, iv (0 : Int32), iv (2 : Int32)] [(.double y2), (.double x2), (.int (0 : Int32))]))) (own_ldD X0 hx hZ e0 V1 (v := (.double y2)) (by decide) rfl (g := (mkF m 59 #[rv pa, rv qa, iv pe, iv (0 : Int32), iv (2 : Int32)] [(.int (2 : Int32)), (.ref qa), (.double x2), (.int (0 : Int32))])) rfl rfl (hb hby own_dm_d59)) ?_
            refine own_go (B := (s₁.setTop (mkF m 61 #[rv pa, rv qa, iv pe, iv (0 : Int32), iv (2 : Int32)] [(.int (own_c x2 y2)), (.int (0 : Int32))]))) (fun t k => XS.dcmpS (x := x2) (y := y2) (v := (own_c x2 y2)) X0.here hx rfl (hb hby own_dm_d60) rfl rfl k) ?_
            refine own_if X0 hx (hb hby own_dm_d61) (pc' := 68) (pn := 64) (by decide) (by decide) rfl (fun (hc_39 : ¬ (0 : Int32) < (own_c x2 y2)) => ?_) (fun (hc_39 : (0 : Int32) < (own_c x2 y2)) => ?_)
            · refine own_go (B := (s₁.setTop (mkF m 69 #[rv pa, rv qa, iv pe, iv (0 : Int32), iv (2 : Int32)] [(.int (0 : Int32)), (.int (0 : Int32))]))) (fun t k => own_iconst (v := (0 : Int32)) X0.here hx rfl (hb hby own_dm_d68) (by decide) k) ?_
              refine own_go (B := (s₁.setTop (mkF m 70 #[rv pa, rv qa, iv pe, iv (0 : Int32), iv (2 : Int32)] [(.int ((0 : Int32) ||| (0 : Int32)))]))) (fun t k => XS.ior (x := (0 : Int32)) (y := (0 : Int32)) X0.here hx rfl (hb hby own_dm_d69) rfl k) ?_
              rw [show ((0 : Int32) ||| (0 : Int32)) = (0 : Int32) from by decide]
              refine own_go (B := (s₁.setTop (mkF m 71 #[rv pa, rv qa, iv pe, iv (0 : Int32), iv (2 : Int32)] []))) (fun t k => XS.istoreN X0.here hx rfl (hb hby own_dm_d70) rfl (l' := #[rv pa, rv qa, iv pe, iv (0 : Int32), iv (2 : Int32)]) rfl k) ?_
              refine own_go (B := (s₁.setTop (mkF m 74 #[rv pa, rv qa, iv pe, iv (0 : Int32), iv (3 : Int32)] []))) (fun t k => XS.iinc X0.here hx rfl (hb hby own_dm_d71) rfl (l' := #[rv pa, rv qa, iv pe, iv (0 : Int32), iv (3 : Int32)]) rfl k) ?_
              refine own_go (B := (s₁.setTop (mkF m 30 #[rv pa, rv qa, iv pe, iv (0 : Int32), iv (3 : Int32)] []))) (fun t k => XS.goto X0.here hx rfl (pc0 := 74) (pc' := 30) rfl (hb hby own_dm_d74) (by decide) (by decide) k) ?_
              refine own_go (B := (s₁.setTop (mkF m 32 #[rv pa, rv qa, iv pe, iv (0 : Int32), iv (3 : Int32)] [(.int (3 : Int32))]))) (fun t k => XS.iload X0.here hx rfl (hb hby own_dm_d30) rfl k) ?_
              refine own_go (B := (s₁.setTop (mkF m 33 #[rv pa, rv qa, iv pe, iv (0 : Int32), iv (3 : Int32)] [(.ref pa), (.int (3 : Int32))]))) (fun t k => XS.aloadN X0.here hx rfl (hb hby own_dm_d32) rfl rfl k) ?_
              refine own_go (B := (s₁.setTop (mkF m 34 #[rv pa, rv qa, iv pe, iv (0 : Int32), iv (3 : Int32)] [(.int (3 : Int32)), (.int (3 : Int32))]))) (own_alen X0 hx hZ e0 V0 (n := (3 : Int32)) (own_lenL (n := 3) rfl (by decide)) (g := (mkF m 33 #[rv pa, rv qa, iv pe, iv (0 : Int32), iv (3 : Int32)] [(.ref pa), (.int (3 : Int32))])) rfl rfl (hb hby own_dm_d33)) ?_
              have hc_40 : ¬ (3 : Int32) < (3 : Int32) := (by decide)
              refine own_icmpY X0 hx (hb hby own_dm_d34) (pc' := 77) (by decide) (by decide) hc_40 ?_
              refine own_go (B := (s₁.setTop (mkF m 78 #[rv pa, rv qa, iv pe, iv (0 : Int32), iv (3 : Int32)] [(.int (0 : Int32))]))) (fun t k => XS.iloadN X0.here hx rfl (hb hby own_dm_d77) rfl k) ?_
              exact own_retZ X0 hx hlk Bd.returns (hb hby own_dm_d78) (by decide) (own_b rfl) (own_b rfl) (Q := (own_dm_Q Z pa qa pe x0 x1 x2 y0 y1 y2 h0 n0)) ⟨by rw [he]; simp +decide [own_dom, own_okk, own_ss, own_and, hc_31, hc_32, hc_33, hc_34, hc_35, hc_36, hc_37, hc_38, hc_39, hc_40], N0, e0⟩
            · refine own_go (B := (s₁.setTop (mkF m 65 #[rv pa, rv qa, iv pe, iv (0 : Int32), iv (2 : Int32)] [(.int (1 : Int32)), (.int (0 : Int32))]))) (fun t k => own_iconst (v := (1 : Int32)) X0.here hx rfl (hb hby own_dm_d64) (by decide) k) ?_
              refine own_go (B := (s₁.setTop (mkF m 69 #[rv pa, rv qa, iv pe, iv (0 : Int32), iv (2 : Int32)] [(.int (1 : Int32)), (.int (0 : Int32))]))) (fun t k => XS.goto X0.here hx rfl (pc0 := 65) (pc' := 69) rfl (hb hby own_dm_d65) (by decide) (by decide) k) ?_
              refine own_go (B := (s₁.setTop (mkF m 70 #[rv pa, rv qa, iv pe, iv (0 : Int32), iv (2 : Int32)] [(.int ((0 : Int32) ||| (1 : Int32)))]))) (fun t k => XS.ior (x := (0 : Int32)) (y := (1 : Int32)) X0.here hx rfl (hb hby own_dm_d69) rfl k) ?_
              rw [show ((0 : Int32) ||| (1 : Int32)) = (1 : Int32) from by decide]
              refine own_go (B := (s₁.setTop (mkF m 71 #[rv pa, rv qa, iv pe, iv (1 : Int32), iv (2 : Int32)] []))) (fun t k => XS.istoreN X0.here hx rfl (hb hby own_dm_d70) rfl (l' := #[rv pa, rv qa, iv pe, iv (1 : Int32), iv (2 : Int32)]) rfl k) ?_
              refine own_go (B := (s₁.setTop (mkF m 74 #[rv pa, rv qa, iv pe, iv (1 : Int32), iv (3 : Int32)] []))) (fun t k => XS.iinc X0.here hx rfl (hb hby own_dm_d71) rfl (l' := #[rv pa, rv qa, iv pe, iv (1 : Int32), iv (3 : Int32)]) rfl k) ?_
              refine own_go (B := (s₁.setTop (mkF m 30 #[rv pa, rv qa, iv pe, iv (1 : Int32), iv (3 : Int32)] []))) (fun t k => XS.goto X0.here hx rfl (pc0 := 74) (pc' := 30) rfl (hb hby own_dm_d74) (by decide) (by decide) k) ?_
              refine own_go (B := (s₁.setTop (mkF m 32 #[rv pa, rv qa, iv pe, iv (1 : Int32), iv (3 : Int32)] [(.int (3 : Int32))]))) (fun t k => XS.iload X0.here hx rfl (hb hby own_dm_d30) rfl k) ?_
              refine own_go (B := (s₁.setTop (mkF m 33 #[rv pa, rv qa, iv pe, iv (1 : Int32), iv (3 : Int32)] [(.ref pa), (.int (3 : Int32))]))) (fun t k => XS.aloadN X0.here hx rfl (hb hby own_dm_d32) rfl rfl k) ?_
              refine own_go (B := (s₁.setTop (mkF m 34 #[rv pa, rv qa, iv pe, iv (1 : Int32), iv (3 : Int32)] [(.int (3 : Int32)), (.int (3 : Int32))]))) (own_alen X0 hx hZ e0 V0 (n := (3 : Int32)) (own_lenL (n := 3) rfl (by decide)) (g := (mkF m 33 #[rv pa, rv qa, iv pe, iv (1 : Int32), iv (3 : Int32)] [(.ref pa), (.int (3 : Int32))])) rfl rfl (hb hby own_dm_d33)) ?_
              have hc_41 : ¬ (3 : Int32) < (3 : Int32) := (by decide)
              refine own_icmpY X0 hx (hb hby own_dm_d34) (pc' := 77) (by decide) (by decide) hc_41 ?_
              refine own_go (B := (s₁.setTop (mkF m 78 #[rv pa, rv qa, iv pe, iv (1 : Int32), iv (3 : Int32)] [(.int (1 : Int32))]))) (fun t k => XS.iloadN X0.here hx rfl (hb hby own_dm_d77) rfl k) ?_
              exact own_retZ X0 hx hlk Bd.returns (hb hby own_dm_d78) (by decide) (own_b rfl) (own_b rfl) (Q := (own_dm_Q Z pa qa pe x0 x1 x2 y0 y1 y2 h0 n0)) ⟨by rw [he]; simp +decide [own_dom, own_okk, own_ss, own_and, hc_31, hc_32, hc_33, hc_34, hc_35, hc_36, hc_37, hc_38, hc_39, hc_41], N0, e0⟩
          · refine own_go (B := (s₁.setTop (mkF m 50 #[rv pa, rv qa, iv pe, iv (0 : Int32), iv (2 : Int32)] [(.int (0 : Int32))]))) (fun t k => own_iconst (v := (0 : Int32)) X0.here hx rfl (hb hby own_dm_d49) (by decide) k) ?_
            exact own_retZ X0 hx hlk Bd.returns (hb hby own_dm_d50) (by decide) (own_b rfl) (own_b rfl) (Q := (own_dm_Q Z pa qa pe x0 x1 x2 y0 y1 y2 h0 n0)) ⟨by rw [he]; simp +decide [own_dom, own_okk, own_ss, own_and, hc_31, hc_32, hc_33, hc_34, hc_35, hc_36, hc_37, hc_38], N0, e0⟩
        · refine own_go (B := (s₁.setTop (mkF m 65 #[rv pa, rv qa, iv pe, iv (0 : Int32), iv (1 : Int32)] [(.int (1 : Int32)), (.int (0 : Int32))]))) (fun t k => own_iconst (v := (1 : Int32)) X0.here hx rfl (hb hby own_dm_d64) (by decide) k) ?_
          refine own_go (B := (s₁.setTop (mkF m 69 #[rv pa, rv qa, iv pe, iv (0 : Int32), iv (1 : Int32)] [(.int (1 : Int32)), (.int (0 : Int32))]))) (fun t k => XS.goto X0.here hx rfl (pc0 := 65) (pc' := 69) rfl (hb hby own_dm_d65) (by decide) (by decide) k) ?_
          refine own_go (B := (s₁.setTop (mkF m 70 #[rv pa, rv qa, iv pe, iv (0 : Int32), iv (1 : Int32)] [(.int ((0 : Int32) ||| (1 : Int32)))]))) (fun t k => XS.ior (x := (0 : Int32)) (y := (1 : Int32)) X0.here hx rfl (hb hby own_dm_d69) rfl k) ?_
          rw [show ((0 : Int32) ||| (1 : Int32)) = (1 : Int32) from by decide]
          refine own_go (B := (s₁.setTop (mkF m 71 #[rv pa, rv qa, iv pe, iv (1 : Int32), iv (1 : Int32)] []))) (fun t k => XS.istoreN X0.here hx rfl (hb hby own_dm_d70) rfl (l' := #[rv pa, rv qa, iv pe, iv (1 : Int32), iv (1 : Int32)]) rfl k) ?_
          refine own_go (B := (s₁.setTop (mkF m 74 #[rv pa, rv qa, iv pe, iv (1 : Int32), iv (2 : Int32)] []))) (fun t k => XS.iinc X0.here hx rfl (hb hby own_dm_d71) rfl (l' := #[rv pa, rv qa, iv pe, iv (1 : Int32), iv (2 : Int32)]) rfl k) ?_
          refine own_go (B := (s₁.setTop (mkF m 30 #[rv pa, rv qa, iv pe, iv (1 : Int32), iv (2 : Int32)] []))) (fun t k => XS.goto X0.here hx rfl (pc0 := 74) (pc' := 30) rfl (hb hby own_dm_d74) (by decide) (by decide) k) ?_
          refine own_go (B := (s₁.setTop (mkF m 32 #[rv pa, rv qa, iv pe, iv (1 : Int32), iv (2 : Int32)] [(.int (2 : Int32))]))) (fun t k => XS.iload X0.here hx rfl (hb hby own_dm_d30) rfl k) ?_
          refine own_go (B := (s₁.setTop (mkF m 33 #[rv pa, rv qa, iv pe, iv (1 : Int32), iv (2 : Int32)] [(.ref pa), (.int (2 : Int32))]))) (fun t k => XS.aloadN X0.here hx rfl (hb hby own_dm_d32) rfl rfl k) ?_
          refine own_go (B := (s₁.setTop (mkF m 34 #[rv pa, rv qa, iv pe, iv (1 : Int32), iv (2 : Int32)] [(.int (3 : Int32)), (.int (2 : Int32))]))) (own_alen X0 hx hZ e0 V0 (n := (3 : Int32)) (own_lenL (n := 3) rfl (by decide)) (g := (mkF m 33 #[rv pa, rv qa, iv pe, iv (1 : Int32), iv (2 : Int32)] [(.ref pa), (.int (2 : Int32))])) rfl rfl (hb hby own_dm_d33)) ?_
          have hc_42 : (2 : Int32) < (3 : Int32) := (by decide)
          refine own_icmpN X0 hx (hb hby own_dm_d34) (pn := 37) rfl hc_42 ?_
          refine own_go (B := (s₁.setTop (mkF m 38 #[rv pa, rv qa, iv pe, iv (1 : Int32), iv (2 : Int32)] [(.ref pa)]))) (fun t k => XS.aloadN X0.here hx rfl (hb hby own_dm_d37) rfl rfl k) ?_
          refine own_go (B := (s₁.setTop (mkF m 40 #[rv pa, rv qa, iv pe, iv (1 : Int32), iv (2 : Int32)] [(.int (2 : Int32)), (.ref pa)]))) (fun t k => XS.iload X0.here hx rfl (hb hby own_dm_d38) rfl k) ?_
          refine own_go (B := (s₁.setTop (mkF m 41 #[rv pa, rv qa, iv pe, iv (1 : Int32), iv (2 : Int32)] [(.double x2)]))) (own_ldD X0 hx hZ e0 V0 (v := (.double x2)) (by decide) rfl (g := (mkF m 40 #[rv pa, rv qa, iv pe, iv (1 : Int32), iv (2 : Int32)] [(.int (2 : Int32)), (.ref pa)])) rfl rfl (hb hby own_dm_d40)) ?_
          refine own_go (B := (s₁.setTop (mkF m 42 #[rv pa, rv qa, iv pe, iv (1 : Int32), iv (2 : Int32)] [(.ref qa), (.double x2)]))) (fun t k => XS.aloadN X0.here hx rfl (hb hby own_dm_d41) rfl rfl k) ?_
          refine own_go (B := (s₁.setTop (mkF m 44 #[rv pa, rv qa, iv pe, iv (1 : Int32), iv (2 : Int32)] [(.int (2 : Int32)), (.ref qa), (.double x2)]))) (fun t k => XS.iload X0.here hx rfl (hb hby own_dm_d42) rfl k) ?_
          refine own_go (B := (s₁.setTop (mkF m 45 #[rv pa, rv qa, iv pe, iv (1 : Int32), iv (2 : Int32)] [(.double y2), (.double x2)]))) (own_ldD X0 hx hZ e0 V1 (v := (.double y2)) (by decide) rfl (g := (mkF m 44 #[rv pa, rv qa, iv pe, iv (1 : Int32), iv (2 : Int32)] [(.int (2 : Int32)), (.ref qa), (.double x2)])) rfl rfl (hb hby own_dm_d44)) ?_
          refine own_go (B := (s₁.setTop (mkF m 46 #[rv pa, rv qa, iv pe, iv (1 : Int32), iv (2 : Int32)] [(.int (own_c x2 y2))]))) (fun t k => XS.dcmpS (x := x2) (y := y2) (v := (own_c x2 y2)) X0.here hx rfl (hb hby own_dm_d45) rfl rfl k) ?_
          refine own_if X0 hx (hb hby own_dm_d46) (pc' := 51) (pn := 49) (by decide) (by decide) rfl (fun (hc_43 : ¬ (own_c x2 y2) < (0 : Int32)) => ?_) (fun (hc_43 : (own_c x2 y2) < (0 : Int32)) => ?_)
          · refine own_go (B := (s₁.setTop (mkF m 52 #[rv pa, rv qa, iv pe, iv (1 : Int32), iv (2 : Int32)] [(.int (1 : Int32))]))) (fun t k => XS.iloadN X0.here hx rfl (hb hby own_dm_d51) rfl k) ?_
            refine own_go (B := (s₁.setTop (mkF m 53 #[rv pa, rv qa, iv pe, iv (1 : Int32), iv (2 : Int32)] [(.ref pa), (.int (1 : Int32))]))) (fun t k => XS.aloadN X0.here hx rfl (hb hby own_dm_d52) rfl rfl k) ?_
            refine own_go (B := (s₁.setTop (mkF m 55 #[rv pa, rv qa, iv pe, iv (1 : Int32), iv (2 : Int32)] [(.int (2 : Int32)), (.ref pa), (.int (1 : Int32))]))) (fun t k => XS.iload X0.here hx rfl (hb hby own_dm_d53) rfl k) ?_
            refine own_go (B := (s₁.setTop (mkF m 56 #[rv pa, rv qa, iv pe, iv (1 : Int32), iv (2 : Int32)] [(.double x2), (.int (1 : Int32))]))) (own_ldD X0 hx hZ e0 V0 (v := (.double x2)) (by decide) rfl (g := (mkF m 55 #[rv pa, rv qa, iv pe, iv (1 : Int32), iv (2 : Int32)] [(.int (2 : Int32)), (.ref pa), (.int (1 : Int32))])) rfl rfl (hb hby own_dm_d55)) ?_
            refine own_go (B := (s₁.setTop (mkF m 57 #[rv pa, rv qa, iv pe, iv (1 : Int32), iv (2 : Int32)] [(.ref qa), (.double x2), (.int (1 : Int32))]))) (fun t k => XS.aloadN X0.here hx rfl (hb hby own_dm_d56) rfl rfl k) ?_
            refine own_go (B := (s₁.setTop (mkF m 59 #[rv pa, rv qa, iv pe, iv (1 : Int32), iv (2 : Int32)] [(.int (2 : Int32)), (.ref qa), (.double x2), (.int (1 : Int32))]))) (fun t k => XS.iload X0.here hx rfl (hb hby own_dm_d57) rfl k) ?_
            refine own_go (B := (s₁.setTop (mkF m 60 #[rv pa, rv qa, iv pe, iv (1 : Int32), iv (2 : Int32)] [(.double y2), (.double x2), (.int (1 : Int32))]))) (own_ldD X0 hx hZ e0 V1 (v := (.double y2)) (by decide) rfl (g := (mkF m 59 #[rv pa, rv qa, iv pe, iv (1 : Int32), iv (2 : Int32)] [(.int (2 : Int32)), (.ref qa), (.double x2), (.int (1 : Int32))])) rfl rfl (hb hby own_dm_d59)) ?_
            refine own_go (B := (s₁.setTop (mkF m 61 #[rv pa, rv qa, iv pe, iv (1 : Int32), iv (2 : Int32)] [(.int (own_c x2 y2)), (.int (1 : Int32))]))) (fun t k => XS.dcmpS (x := x2) (y := y2) (v := (own_c x2 y2)) X0.here hx rfl (hb hby own_dm_d60) rfl rfl k) ?_
            refine own_if X0 hx (hb hby own_dm_d61) (pc' := 68) (pn := 64) (by decide) (by decide) rfl (fun (hc_44 : ¬ (0 : Int32) < (own_c x2 y2)) => ?_) (fun (hc_44 : (0 : Int32) < (own_c x2 y2)) => ?_)
            · refine own_go (B := (s₁.setTop (mkF m 69 #[rv pa, rv qa, iv pe, iv (1 : Int32), iv (2 : Int32)] [(.int (0 : Int32)), (.int (1 : Int32))]))) (fun t k => own_iconst (v := (0 : Int32)) X0.here hx rfl (hb hby own_dm_d68) (by decide) k) ?_
              refine own_go (B := (s₁.setTop (mkF m 70 #[rv pa, rv qa, iv pe, iv (1 : Int32), iv (2 : Int32)] [(.int ((1 : Int32) ||| (0 : Int32)))]))) (fun t k => XS.ior (x := (1 : Int32)) (y := (0 : Int32)) X0.here hx rfl (hb hby own_dm_d69) rfl k) ?_
              rw [show ((1 : Int32) ||| (0 : Int32)) = (1 : Int32) from by decide]
              refine own_go (B := (s₁.setTop (mkF m 71 #[rv pa, rv qa, iv pe, iv (1 : Int32), iv (2 : Int32)] []))) (fun t k => XS.istoreN X0.here hx rfl (hb hby own_dm_d70) rfl (l' := #[rv pa, rv qa, iv pe, iv (1 : Int32), iv (2 : Int32)]) rfl k) ?_
              refine own_go (B := (s₁.setTop (mkF m 74 #[rv pa, rv qa, iv pe, iv (1 : Int32), iv (3 : Int32)] []))) (fun t k => XS.iinc X0.here hx rfl (hb hby own_dm_d71) rfl (l' := #[rv pa, rv qa, iv pe, iv (1 : Int32), iv (3 : Int32)]) rfl k) ?_
              refine own_go (B := (s₁.setTop (mkF m 30 #[rv pa, rv qa, iv pe, iv (1 : Int32), iv (3 : Int32)] []))) (fun t k => XS.goto X0.here hx rfl (pc0 := 74) (pc' := 30) rfl (hb hby own_dm_d74) (by decide) (by decide) k) ?_
              refine own_go (B := (s₁.setTop (mkF m 32 #[rv pa, rv qa, iv pe, iv (1 : Int32), iv (3 : Int32)] [(.int (3 : Int32))]))) (fun t k => XS.iload X0.here hx rfl (hb hby own_dm_d30) rfl k) ?_
              refine own_go (B := (s₁.setTop (mkF m 33 #[rv pa, rv qa, iv pe, iv (1 : Int32), iv (3 : Int32)] [(.ref pa), (.int (3 : Int32))]))) (fun t k => XS.aloadN X0.here hx rfl (hb hby own_dm_d32) rfl rfl k) ?_
              refine own_go (B := (s₁.setTop (mkF m 34 #[rv pa, rv qa, iv pe, iv (1 : Int32), iv (3 : Int32)] [(.int (3 : Int32)), (.int (3 : Int32))]))) (own_alen X0 hx hZ e0 V0 (n := (3 : Int32)) (own_lenL (n := 3) rfl (by decide)) (g := (mkF m 33 #[rv pa, rv qa, iv pe, iv (1 : Int32), iv (3 : Int32)] [(.ref pa), (.int (3 : Int32))])) rfl rfl (hb hby own_dm_d33)) ?_
              have hc_45 : ¬ (3 : Int32) < (3 : Int32) := (by decide)
              refine own_icmpY X0 hx (hb hby own_dm_d34) (pc' := 77) (by decide) (by decide) hc_45 ?_
              refine own_go (B := (s₁.setTop (mkF m 78 #[rv pa, rv qa, iv pe, iv (1 : Int32), iv (3 : Int32)] [(.int (1 : Int32))]))) (fun t k => XS.iloadN X0.here hx rfl (hb hby own_dm_d77) rfl k) ?_
              exact own_retZ X0 hx hlk Bd.returns (hb hby own_dm_d78) (by decide) (own_b rfl) (own_b rfl) (Q := (own_dm_Q Z pa qa pe x0 x1 x2 y0 y1 y2 h0 n0)) ⟨by rw [he]; simp +decide [own_dom, own_okk, own_ss, own_and, hc_31, hc_32, hc_33, hc_34, hc_35, hc_36, hc_42, hc_43, hc_44, hc_45], N0, e0⟩
            · refine own_go (B := (s₁.setTop (mkF m 65 #[rv pa, rv qa, iv pe, iv (1 : Int32), iv (2 : Int32)] [(.int (1 : Int32)), (.int (1 : Int32))]))) (fun t k => own_iconst (v := (1 : Int32)) X0.here hx rfl (hb hby own_dm_d64) (by decide) k) ?_
              refine own_go (B := (s₁.setTop (mkF m 69 #[rv pa, rv qa, iv pe, iv (1 : Int32), iv (2 : Int32)] [(.int (1 : Int32)), (.int (1 : Int32))]))) (fun t k => XS.goto X0.here hx rfl (pc0 := 65) (pc' := 69) rfl (hb hby own_dm_d65) (by decide) (by decide) k) ?_
              refine own_go (B := (s₁.setTop (mkF m 70 #[rv pa, rv qa, iv pe, iv (1 : Int32), iv (2 : Int32)] [(.int ((1 : Int32) ||| (1 : Int32)))]))) (fun t k => XS.ior (x := (1 : Int32)) (y := (1 : Int32)) X0.here hx rfl (hb hby own_dm_d69) rfl k) ?_
              rw [show ((1 : Int32) ||| (1 : Int32)) = (1 : Int32) from by decide]
              refine own_go (B := (s₁.setTop (mkF m 71 #[rv pa, rv qa, iv pe, iv (1 : Int32), iv (2 : Int32)] []))) (fun t k => XS.istoreN X0.here hx rfl (hb hby own_dm_d70) rfl (l' := #[rv pa, rv qa, iv pe, iv (1 : Int32), iv (2 : Int32)]) rfl k) ?_
              refine own_go (B := (s₁.setTop (mkF m 74 #[rv pa, rv qa, iv pe, iv (1 : Int32), iv (3 : Int32)] []))) (fun t k => XS.iinc X0.here hx rfl (hb hby own_dm_d71) rfl (l' := #[rv pa, rv qa, iv pe, iv (1 : Int32), iv (3 : Int32)]) rfl k) ?_
              refine own_go (B := (s₁.setTop (mkF m 30 #[rv pa, rv qa, iv pe, iv (1 : Int32), iv (3 : Int32)] []))) (fun t k => XS.goto X0.here hx rfl (pc0 := 74) (pc' := 30) rfl (hb hby own_dm_d74) (by decide) (by decide) k) ?_
              refine own_go (B := (s₁.setTop (mkF m 32 #[rv pa, rv qa, iv pe, iv (1 : Int32), iv (3 : Int32)] [(.int (3 : Int32))]))) (fun t k => XS.iload X0.here hx rfl (hb hby own_dm_d30) rfl k) ?_
              refine own_go (B := (s₁.setTop (mkF m 33 #[rv pa, rv qa, iv pe, iv (1 : Int32), iv (3 : Int32)] [(.ref pa), (.int (3 : Int32))]))) (fun t k => XS.aloadN X0.here hx rfl (hb hby own_dm_d32) rfl rfl k) ?_
              refine own_go (B := (s₁.setTop (mkF m 34 #[rv pa, rv qa, iv pe, iv (1 : Int32), iv (3 : Int32)] [(.int (3 : Int32)), (.int (3 : Int32))]))) (own_alen X0 hx hZ e0 V0 (n := (3 : Int32)) (own_lenL (n := 3) rfl (by decide)) (g := (mkF m 33 #[rv pa, rv qa, iv pe, iv (1 : Int32), iv (3 : Int32)] [(.ref pa), (.int (3 : Int32))])) rfl rfl (hb hby own_dm_d33)) ?_
              have hc_46 : ¬ (3 : Int32) < (3 : Int32) := (by decide)
              refine own_icmpY X0 hx (hb hby own_dm_d34) (pc' := 77) (by decide) (by decide) hc_46 ?_
              refine own_go (B := (s₁.setTop (mkF m 78 #[rv pa, rv qa, iv pe, iv (1 : Int32), iv (3 : Int32)] [(.int (1 : Int32))]))) (fun t k => XS.iloadN X0.here hx rfl (hb hby own_dm_d77) rfl k) ?_
              exact own_retZ X0 hx hlk Bd.returns (hb hby own_dm_d78) (by decide) (own_b rfl) (own_b rfl) (Q := (own_dm_Q Z pa qa pe x0 x1 x2 y0 y1 y2 h0 n0)) ⟨by rw [he]; simp +decide [own_dom, own_okk, own_ss, own_and, hc_31, hc_32, hc_33, hc_34, hc_35, hc_36, hc_42, hc_43, hc_44, hc_46], N0, e0⟩
          · refine own_go (B := (s₁.setTop (mkF m 50 #[rv pa, rv qa, iv pe, iv (1 : Int32), iv (2 : Int32)] [(.int (0 : Int32))]))) (fun t k => own_iconst (v := (0 : Int32)) X0.here hx rfl (hb hby own_dm_d49) (by decide) k) ?_
            exact own_retZ X0 hx hlk Bd.returns (hb hby own_dm_d50) (by decide) (own_b rfl) (own_b rfl) (Q := (own_dm_Q Z pa qa pe x0 x1 x2 y0 y1 y2 h0 n0)) ⟨by rw [he]; simp +decide [own_dom, own_okk, own_ss, own_and, hc_31, hc_32, hc_33, hc_34, hc_35, hc_36, hc_42, hc_43], N0, e0⟩
      · refine own_go (B := (s₁.setTop (mkF m 50 #[rv pa, rv qa, iv pe, iv (0 : Int32), iv (1 : Int32)] [(.int (0 : Int32))]))) (fun t k => own_iconst (v := (0 : Int32)) X0.here hx rfl (hb hby own_dm_d49) (by decide) k) ?_
        exact own_retZ X0 hx hlk Bd.returns (hb hby own_dm_d50) (by decide) (own_b rfl) (own_b rfl) (Q := (own_dm_Q Z pa qa pe x0 x1 x2 y0 y1 y2 h0 n0)) ⟨by rw [he]; simp +decide [own_dom, own_okk, own_ss, own_and, hc_31, hc_32, hc_33, hc_34, hc_35], N0, e0⟩
    · refine own_go (B := (s₁.setTop (mkF m 18 #[rv pa, rv qa, iv pe, iv (0 : Int32), .unset] [(.int (0 : Int32))]))) (fun t k => own_iconst (v := (0 : Int32)) X0.here hx rfl (hb hby own_dm_d17) (by decide) k) ?_
      exact own_retZ X0 hx hlk Bd.returns (hb hby own_dm_d18) (by decide) (own_b rfl) (own_b rfl) (Q := (own_dm_Q Z pa qa pe x0 x1 x2 y0 y1 y2 h0 n0)) ⟨by rw [he]; simp +decide [own_dom, own_okk, own_ss, own_and, hc_31, hc_32], N0, e0⟩
  · refine own_go (B := (s₁.setTop (mkF m 1 #[rv pa, rv qa, iv pe, .unset, .unset] [(.int (0 : Int32))]))) (fun t k => own_iconst (v := (0 : Int32)) X0.here hx rfl (hb hby own_dm_d0) (by decide) k) ?_
    refine own_go (B := (s₁.setTop (mkF m 2 #[rv pa, rv qa, iv pe, iv (0 : Int32), .unset] []))) (fun t k => XS.istoreN X0.here hx rfl (hb hby own_dm_d1) rfl (l' := #[rv pa, rv qa, iv pe, iv (0 : Int32), .unset]) rfl k) ?_
    refine own_go (B := (s₁.setTop (mkF m 3 #[rv pa, rv qa, iv pe, iv (0 : Int32), .unset] [(.int (0 : Int32))]))) (fun t k => XS.iloadN X0.here hx rfl (hb hby own_dm_d2) rfl k) ?_
    refine own_go (B := (s₁.setTop (mkF m 4 #[rv pa, rv qa, iv pe, iv (0 : Int32), .unset] [(.int pe), (.int (0 : Int32))]))) (fun t k => XS.iloadN X0.here hx rfl (hb hby own_dm_d3) rfl k) ?_
    have hc_47 : (0 : Int32) < pe := (by rw [he]; decide)
    refine own_icmpN X0 hx (hb hby own_dm_d4) (pn := 7) rfl hc_47 ?_
    refine own_go (B := (s₁.setTop (mkF m 8 #[rv pa, rv qa, iv pe, iv (0 : Int32), .unset] [(.ref pa)]))) (fun t k => XS.aloadN X0.here hx rfl (hb hby own_dm_d7) rfl rfl k) ?_
    refine own_go (B := (s₁.setTop (mkF m 9 #[rv pa, rv qa, iv pe, iv (0 : Int32), .unset] [(.int (0 : Int32)), (.ref pa)]))) (fun t k => XS.iloadN X0.here hx rfl (hb hby own_dm_d8) rfl k) ?_
    refine own_go (B := (s₁.setTop (mkF m 10 #[rv pa, rv qa, iv pe, iv (0 : Int32), .unset] [(.double x0)]))) (own_ldD X0 hx hZ e0 V0 (v := (.double x0)) (by decide) rfl (g := (mkF m 9 #[rv pa, rv qa, iv pe, iv (0 : Int32), .unset] [(.int (0 : Int32)), (.ref pa)])) rfl rfl (hb hby own_dm_d9)) ?_
    refine own_go (B := (s₁.setTop (mkF m 11 #[rv pa, rv qa, iv pe, iv (0 : Int32), .unset] [(.ref qa), (.double x0)]))) (fun t k => XS.aloadN X0.here hx rfl (hb hby own_dm_d10) rfl rfl k) ?_
    refine own_go (B := (s₁.setTop (mkF m 12 #[rv pa, rv qa, iv pe, iv (0 : Int32), .unset] [(.int (0 : Int32)), (.ref qa), (.double x0)]))) (fun t k => XS.iloadN X0.here hx rfl (hb hby own_dm_d11) rfl k) ?_
    refine own_go (B := (s₁.setTop (mkF m 13 #[rv pa, rv qa, iv pe, iv (0 : Int32), .unset] [(.double y0), (.double x0)]))) (own_ldD X0 hx hZ e0 V1 (v := (.double y0)) (by decide) rfl (g := (mkF m 12 #[rv pa, rv qa, iv pe, iv (0 : Int32), .unset] [(.int (0 : Int32)), (.ref qa), (.double x0)])) rfl rfl (hb hby own_dm_d12)) ?_
    refine own_go (B := (s₁.setTop (mkF m 14 #[rv pa, rv qa, iv pe, iv (0 : Int32), .unset] [(.int (own_c x0 y0))]))) (fun t k => XS.dcmpS (x := x0) (y := y0) (v := (own_c x0 y0)) X0.here hx rfl (hb hby own_dm_d13) rfl rfl k) ?_
    refine own_if X0 hx (hb hby own_dm_d14) (pc' := 19) (pn := 17) (by decide) (by decide) rfl (fun (hc_48 : (own_c x0 y0) = (0 : Int32)) => ?_) (fun (hc_48 : ¬ (own_c x0 y0) = (0 : Int32)) => ?_)
    · refine own_go (B := (s₁.setTop (mkF m 22 #[rv pa, rv qa, iv pe, iv (1 : Int32), .unset] []))) (fun t k => XS.iinc X0.here hx rfl (hb hby own_dm_d19) rfl (l' := #[rv pa, rv qa, iv pe, iv (1 : Int32), .unset]) rfl k) ?_
      refine own_go (B := (s₁.setTop (mkF m 2 #[rv pa, rv qa, iv pe, iv (1 : Int32), .unset] []))) (fun t k => XS.goto X0.here hx rfl (pc0 := 22) (pc' := 2) rfl (hb hby own_dm_d22) (by decide) (by decide) k) ?_
      refine own_go (B := (s₁.setTop (mkF m 3 #[rv pa, rv qa, iv pe, iv (1 : Int32), .unset] [(.int (1 : Int32))]))) (fun t k => XS.iloadN X0.here hx rfl (hb hby own_dm_d2) rfl k) ?_
      refine own_go (B := (s₁.setTop (mkF m 4 #[rv pa, rv qa, iv pe, iv (1 : Int32), .unset] [(.int pe), (.int (1 : Int32))]))) (fun t k => XS.iloadN X0.here hx rfl (hb hby own_dm_d3) rfl k) ?_
      have hc_49 : (1 : Int32) < pe := (by rw [he]; decide)
      refine own_icmpN X0 hx (hb hby own_dm_d4) (pn := 7) rfl hc_49 ?_
      refine own_go (B := (s₁.setTop (mkF m 8 #[rv pa, rv qa, iv pe, iv (1 : Int32), .unset] [(.ref pa)]))) (fun t k => XS.aloadN X0.here hx rfl (hb hby own_dm_d7) rfl rfl k) ?_
      refine own_go (B := (s₁.setTop (mkF m 9 #[rv pa, rv qa, iv pe, iv (1 : Int32), .unset] [(.int (1 : Int32)), (.ref pa)]))) (fun t k => XS.iloadN X0.here hx rfl (hb hby own_dm_d8) rfl k) ?_
      refine own_go (B := (s₁.setTop (mkF m 10 #[rv pa, rv qa, iv pe, iv (1 : Int32), .unset] [(.double x1)]))) (own_ldD X0 hx hZ e0 V0 (v := (.double x1)) (by decide) rfl (g := (mkF m 9 #[rv pa, rv qa, iv pe, iv (1 : Int32), .unset] [(.int (1 : Int32)), (.ref pa)])) rfl rfl (hb hby own_dm_d9)) ?_
      refine own_go (B := (s₁.setTop (mkF m 11 #[rv pa, rv qa, iv pe, iv (1 : Int32), .unset] [(.ref qa), (.double x1)]))) (fun t k => XS.aloadN X0.here hx rfl (hb hby own_dm_d10) rfl rfl k) ?_
      refine own_go (B := (s₁.setTop (mkF m 12 #[rv pa, rv qa, iv pe, iv (1 : Int32), .unset] [(.int (1 : Int32)), (.ref qa), (.double x1)]))) (fun t k => XS.iloadN X0.here hx rfl (hb hby own_dm_d11) rfl k) ?_
      refine own_go (B := (s₁.setTop (mkF m 13 #[rv pa, rv qa, iv pe, iv (1 : Int32), .unset] [(.double y1), (.double x1)]))) (own_ldD X0 hx hZ e0 V1 (v := (.double y1)) (by decide) rfl (g := (mkF m 12 #[rv pa, rv qa, iv pe, iv (1 : Int32), .unset] [(.int (1 : Int32)), (.ref qa), (.double x1)])) rfl rfl (hb hby own_dm_d12)) ?_
      refine own_go (B := (s₁.setTop (mkF m 14 #[rv pa, rv qa, iv pe, iv (1 : Int32), .unset] [(.int (own_c x1 y1))]))) (fun t k => XS.dcmpS (x := x1) (y := y1) (v := (own_c x1 y1)) X0.here hx rfl (hb hby own_dm_d13) rfl rfl k) ?_
      refine own_if X0 hx (hb hby own_dm_d14) (pc' := 19) (pn := 17) (by decide) (by decide) rfl (fun (hc_50 : (own_c x1 y1) = (0 : Int32)) => ?_) (fun (hc_50 : ¬ (own_c x1 y1) = (0 : Int32)) => ?_)
      · refine own_go (B := (s₁.setTop (mkF m 22 #[rv pa, rv qa, iv pe, iv (2 : Int32), .unset] []))) (fun t k => XS.iinc X0.here hx rfl (hb hby own_dm_d19) rfl (l' := #[rv pa, rv qa, iv pe, iv (2 : Int32), .unset]) rfl k) ?_
        refine own_go (B := (s₁.setTop (mkF m 2 #[rv pa, rv qa, iv pe, iv (2 : Int32), .unset] []))) (fun t k => XS.goto X0.here hx rfl (pc0 := 22) (pc' := 2) rfl (hb hby own_dm_d22) (by decide) (by decide) k) ?_
        refine own_go (B := (s₁.setTop (mkF m 3 #[rv pa, rv qa, iv pe, iv (2 : Int32), .unset] [(.int (2 : Int32))]))) (fun t k => XS.iloadN X0.here hx rfl (hb hby own_dm_d2) rfl k) ?_
        refine own_go (B := (s₁.setTop (mkF m 4 #[rv pa, rv qa, iv pe, iv (2 : Int32), .unset] [(.int pe), (.int (2 : Int32))]))) (fun t k => XS.iloadN X0.here hx rfl (hb hby own_dm_d3) rfl k) ?_
        have hc_51 : ¬ (2 : Int32) < pe := (by rw [he]; decide)
        refine own_icmpY X0 hx (hb hby own_dm_d4) (pc' := 25) (by decide) (by decide) hc_51 ?_
        refine own_go (B := (s₁.setTop (mkF m 26 #[rv pa, rv qa, iv pe, iv (2 : Int32), .unset] [(.int (0 : Int32))]))) (fun t k => own_iconst (v := (0 : Int32)) X0.here hx rfl (hb hby own_dm_d25) (by decide) k) ?_
        refine own_go (B := (s₁.setTop (mkF m 27 #[rv pa, rv qa, iv pe, iv (0 : Int32), .unset] []))) (fun t k => XS.istoreN X0.here hx rfl (hb hby own_dm_d26) rfl (l' := #[rv pa, rv qa, iv pe, iv (0 : Int32), .unset]) rfl k) ?_
        refine own_go (B := (s₁.setTop (mkF m 28 #[rv pa, rv qa, iv pe, iv (0 : Int32), .unset] [(.int pe)]))) (fun t k => XS.iloadN X0.here hx rfl (hb hby own_dm_d27) rfl k) ?_
        refine own_cast (B := (s₁.setTop (mkF m 28 #[rv pa, rv qa, iv pe, iv (0 : Int32), .unset] [(.int (2 : Int32))]))) (by rw [he]) ?_
        refine own_go (B := (s₁.setTop (mkF m 30 #[rv pa, rv qa, iv pe, iv (0 : Int32), iv (2 : Int32)] []))) (fun t k => XS.istore X0.here hx rfl (hb hby own_dm_d28) rfl (l' := #[rv pa, rv qa, iv pe, iv (0 : Int32), iv (2 : Int32)]) rfl k) ?_
        refine own_go (B := (s₁.setTop (mkF m 32 #[rv pa, rv qa, iv pe, iv (0 : Int32), iv (2 : Int32)] [(.int (2 : Int32))]))) (fun t k => XS.iload X0.here hx rfl (hb hby own_dm_d30) rfl k) ?_
        refine own_go (B := (s₁.setTop (mkF m 33 #[rv pa, rv qa, iv pe, iv (0 : Int32), iv (2 : Int32)] [(.ref pa), (.int (2 : Int32))]))) (fun t k => XS.aloadN X0.here hx rfl (hb hby own_dm_d32) rfl rfl k) ?_
        refine own_go (B := (s₁.setTop (mkF m 34 #[rv pa, rv qa, iv pe, iv (0 : Int32), iv (2 : Int32)] [(.int (3 : Int32)), (.int (2 : Int32))]))) (own_alen X0 hx hZ e0 V0 (n := (3 : Int32)) (own_lenL (n := 3) rfl (by decide)) (g := (mkF m 33 #[rv pa, rv qa, iv pe, iv (0 : Int32), iv (2 : Int32)] [(.ref pa), (.int (2 : Int32))])) rfl rfl (hb hby own_dm_d33)) ?_
        have hc_52 : (2 : Int32) < (3 : Int32) := (by decide)
        refine own_icmpN X0 hx (hb hby own_dm_d34) (pn := 37) rfl hc_52 ?_
        refine own_go (B := (s₁.setTop (mkF m 38 #[rv pa, rv qa, iv pe, iv (0 : Int32), iv (2 : Int32)] [(.ref pa)]))) (fun t k => XS.aloadN X0.here hx rfl (hb hby own_dm_d37) rfl rfl k) ?_
        refine own_go (B := (s₁.setTop (mkF m 40 #[rv pa, rv qa, iv pe, iv (0 : Int32), iv (2 : Int32)] [(.int (2 : Int32)), (.ref pa)]))) (fun t k => XS.iload X0.here hx rfl (hb hby own_dm_d38) rfl k) ?_
        refine own_go (B := (s₁.setTop (mkF m 41 #[rv pa, rv qa, iv pe, iv (0 : Int32), iv (2 : Int32)] [(.double x2)]))) (own_ldD X0 hx hZ e0 V0 (v := (.double x2)) (by decide) rfl (g := (mkF m 40 #[rv pa, rv qa, iv pe, iv (0 : Int32), iv (2 : Int32)] [(.int (2 : Int32)), (.ref pa)])) rfl rfl (hb hby own_dm_d40)) ?_
        refine own_go (B := (s₁.setTop (mkF m 42 #[rv pa, rv qa, iv pe, iv (0 : Int32), iv (2 : Int32)] [(.ref qa), (.double x2)]))) (fun t k => XS.aloadN X0.here hx rfl (hb hby own_dm_d41) rfl rfl k) ?_
        refine own_go (B := (s₁.setTop (mkF m 44 #[rv pa, rv qa, iv pe, iv (0 : Int32), iv (2 : Int32)] [(.int (2 : Int32)), (.ref qa), (.double x2)]))) (fun t k => XS.iload X0.here hx rfl (hb hby own_dm_d42) rfl k) ?_
        refine own_go (B := (s₁.setTop (mkF m 45 #[rv pa, rv qa, iv pe, iv (0 : Int32), iv (2 : Int32)] [(.double y2), (.double x2)]))) (own_ldD X0 hx hZ e0 V1 (v := (.double y2)) (by decide) rfl (g := (mkF m 44 #[rv pa, rv qa, iv pe, iv (0 : Int32), iv (2 : Int32)] [(.int (2 : Int32)), (.ref qa), (.double x2)])) rfl rfl (hb hby own_dm_d44)) ?_
        refine own_go (B := (s₁.setTop (mkF m 46 #[rv pa, rv qa, iv pe, iv (0 : Int32), iv (2 : Int32)] [(.int (own_c x2 y2))]))) (fun t k => XS.dcmpS (x := x2) (y := y2) (v := (own_c x2 y2)) X0.here hx rfl (hb hby own_dm_d45) rfl rfl k) ?_
        refine own_if X0 hx (hb hby own_dm_d46) (pc' := 51) (pn := 49) (by decide) (by decide) rfl (fun (hc_53 : ¬ (own_c x2 y2) < (0 : Int32)) => ?_) (fun (hc_53 : (own_c x2 y2) < (0 : Int32)) => ?_)
        · refine own_go (B := (s₁.setTop (mkF m 52 #[rv pa, rv qa, iv pe, iv (0 : Int32), iv (2 : Int32)] [(.int (0 : Int32))]))) (fun t k => XS.iloadN X0.here hx rfl (hb hby own_dm_d51) rfl k) ?_
          refine own_go (B := (s₁.setTop (mkF m 53 #[rv pa, rv qa, iv pe, iv (0 : Int32), iv (2 : Int32)] [(.ref pa), (.int (0 : Int32))]))) (fun t k => XS.aloadN X0.here hx rfl (hb hby own_dm_d52) rfl rfl k) ?_
          refine own_go (B := (s₁.setTop (mkF m 55 #[rv pa, rv qa, iv pe, iv (0 : Int32), iv (2 : Int32)] [(.int (2 : Int32)), (.ref pa), (.int (0 : Int32))]))) (fun t k => XS.iload X0.here hx rfl (hb hby own_dm_d53) rfl k) ?_
          refine own_go (B := (s₁.setTop (mkF m 56 #[rv pa, rv qa, iv pe, iv (0 : Int32), iv (2 : Int32)] [(.double x2), (.int (0 : Int32))]))) (own_ldD X0 hx hZ e0 V0 (v := (.double x2)) (by decide) rfl (g := (mkF m 55 #[rv pa, rv qa, iv pe, iv (0 : Int32), iv (2 : Int32)] [(.int (2 : Int32)), (.ref pa), (.int (0 : Int32))])) rfl rfl (hb hby own_dm_d55)) ?_
          refine own_go (B := (s₁.setTop (mkF m 57 #[rv pa, rv qa, iv pe, iv (0 : Int32), iv (2 : Int32)] [(.ref qa), (.double x2), (.int (0 : Int32))]))) (fun t k => XS.aloadN X0.here hx rfl (hb hby own_dm_d56) rfl rfl k) ?_
          refine own_go (B := (s₁.setTop (mkF m 59 #[rv pa, rv qa, iv pe, iv (0 : Int32), iv (2 : Int32)] [(.int (2 : Int32)), (.ref qa), (.double x2), (.int (0 : Int32))]))) (fun t k => XS.iload X0.here hx rfl (hb hby own_dm_d57) rfl k) ?_
          refine own_go (B := (s₁.setTop (mkF m 60 #[rv pa, rv qa, iv pe, iv (0 : Int32), iv (2 : Int32)] [(.double y2), (.double x2), (.int (0 : Int32))]))) (own_ldD X0 hx hZ e0 V1 (v := (.double y2)) (by decide) rfl (g := (mkF m 59 #[rv pa, rv qa, iv pe, iv (0 : Int32), iv (2 : Int32)] [(.int (2 : Int32)), (.ref qa), (.double x2), (.int (0 : Int32))])) rfl rfl (hb hby own_dm_d59)) ?_
          refine own_go (B := (s₁.setTop (mkF m 61 #[rv pa, rv qa, iv pe, iv (0 : Int32), iv (2 : Int32)] [(.int (own_c x2 y2)), (.int (0 : Int32))]))) (fun t k => XS.dcmpS (x := x2) (y := y2) (v := (own_c x2 y2)) X0.here hx rfl (hb hby own_dm_d60) rfl rfl k) ?_
          refine own_if X0 hx (hb hby own_dm_d61) (pc' := 68) (pn := 64) (by decide) (by decide) rfl (fun (hc_54 : ¬ (0 : Int32) < (own_c x2 y2)) => ?_) (fun (hc_54 : (0 : Int32) < (own_c x2 y2)) => ?_)
          · refine own_go (B := (s₁.setTop (mkF m 69 #[rv pa, rv qa, iv pe, iv (0 : Int32), iv (2 : Int32)] [(.int (0 : Int32)), (.int (0 : Int32))]))) (fun t k => own_iconst (v := (0 : Int32)) X0.here hx rfl (hb hby own_dm_d68) (by decide) k) ?_
            refine own_go (B := (s₁.setTop (mkF m 70 #[rv pa, rv qa, iv pe, iv (0 : Int32), iv (2 : Int32)] [(.int ((0 : Int32) ||| (0 : Int32)))]))) (fun t k => XS.ior (x := (0 : Int32)) (y := (0 : Int32)) X0.here hx rfl (hb hby own_dm_d69) rfl k) ?_
            rw [show ((0 : Int32) ||| (0 : Int32)) = (0 : Int32) from by decide]
            refine own_go (B := (s₁.setTop (mkF m 71 #[rv pa, rv qa, iv pe, iv (0 : Int32), iv (2 : Int32)] []))) (fun t k => XS.istoreN X0.here hx rfl (hb hby own_dm_d70) rfl (l' := #[rv pa, rv qa, iv pe, iv (0 : Int32), iv (2 : Int32)]) rfl k) ?_
            refine own_go (B := (s₁.setTop (mkF m 74 #[rv pa, rv qa, iv pe, iv (0 : Int32), iv (3 : Int32)] []))) (fun t k => XS.iinc X0.here hx rfl (hb hby own_dm_d71) rfl (l' := #[rv pa, rv qa, iv pe, iv (0 : Int32), iv (3 : Int32)]) rfl k) ?_
            refine own_go (B := (s₁.setTop (mkF m 30 #[rv pa, rv qa, iv pe, iv (0 : Int32), iv (3 : Int32)] []))) (fun t k => XS.goto X0.here hx rfl (pc0 := 74) (pc' := 30) rfl (hb hby own_dm_d74) (by decide) (by decide) k) ?_
            refine own_go (B := (s₁.setTop (mkF m 32 #[rv pa, rv qa, iv pe, iv (0 : Int32), iv (3 : Int32)] [(.int (3 : Int32))]))) (fun t k => XS.iload X0.here hx rfl (hb hby own_dm_d30) rfl k) ?_
            refine own_go (B := (s₁.setTop (mkF m 33 #[rv pa, rv qa, iv pe, iv (0 : Int32), iv (3 : Int32)] [(.ref pa), (.int (3 : Int32))]))) (fun t k => XS.aloadN X0.here hx rfl (hb hby own_dm_d32) rfl rfl k) ?_
            refine own_go (B := (s₁.setTop (mkF m 34 #[rv pa, rv qa, iv pe, iv (0 : Int32), iv (3 : Int32)] [(.int (3 : Int32)), (.int (3 : Int32))]))) (own_alen X0 hx hZ e0 V0 (n := (3 : Int32)) (own_lenL (n := 3) rfl (by decide)) (g := (mkF m 33 #[rv pa, rv qa, iv pe, iv (0 : Int32), iv (3 : Int32)] [(.ref pa), (.int (3 : Int32))])) rfl rfl (hb hby own_dm_d33)) ?_
            have hc_55 : ¬ (3 : Int32) < (3 : Int32) := (by decide)
            refine own_icmpY X0 hx (hb hby own_dm_d34) (pc' := 77) (by decide) (by decide) hc_55 ?_
            refine own_go (B := (s₁.setTop (mkF m 78 #[rv pa, rv qa, iv pe, iv (0 : Int32), iv (3 : Int32)] [(.int (0 : Int32))]))) (fun t k => XS.iloadN X0.here hx rfl (hb hby own_dm_d77) rfl k) ?_
            exact own_retZ X0 hx hlk Bd.returns (hb hby own_dm_d78) (by decide) (own_b rfl) (own_b rfl) (Q := (own_dm_Q Z pa qa pe x0 x1 x2 y0 y1 y2 h0 n0)) ⟨by rw [he]; simp +decide [own_dom, own_okk, own_ss, own_and, hc_47, hc_48, hc_49, hc_50, hc_51, hc_52, hc_53, hc_54, hc_55], N0, e0⟩
          · refine own_go (B := (s₁.setTop (mkF m 65 #[rv pa, rv qa, iv pe, iv (0 : Int32), iv (2 : Int32)] [(.int (1 : Int32)), (.int (0 : Int32))]))) (fun t k => own_iconst (v := (1 : Int32)) X0.here hx rfl (hb hby own_dm_d64) (by decide) k) ?_
            refine own_go (B := (s₁.setTop (mkF m 69 #[rv pa, rv qa, iv pe, iv (0 : Int32), iv (2 : Int32)] [(.int (1 : Int32)), (.int (0 : Int32))]))) (fun t k => XS.goto X0.here hx rfl (pc0 := 65) (pc' := 69) rfl (hb hby own_dm_d65) (by decide) (by decide) k) ?_
            refine own_go (B := (s₁.setTop (mkF m 70 #[rv pa, rv qa, iv pe, iv (0 : Int32), iv (2 : Int32)] [(.int ((0 : Int32) ||| (1 : Int32)))]))) (fun t k => XS.ior (x := (0 : Int32)) (y := (1 : Int32)) X0.here hx rfl (hb hby own_dm_d69) rfl k) ?_
            rw [show ((0 : Int32) ||| (1 : Int32)) = (1 : Int32) from by decide]
            refine own_go (B := (s₁.setTop (mkF m 71 #[rv pa, rv qa, iv pe, iv (1 : Int32), iv (2 : Int32)] []))) (fun t k => XS.istoreN X0.here hx rfl (hb hby own_dm_d70) rfl (l' := #[rv pa, rv qa, iv pe, iv (1 : Int32), iv (2 : Int32)]) rfl k) ?_
            refine own_go (B := (s₁.setTop (mkF m 74 #[rv pa, rv qa, iv pe, iv (1 : Int32), iv (3 : Int32)] []))) (fun t k => XS.iinc X0.here hx rfl (hb hby own_dm_d71) rfl (l' := #[rv pa, rv qa, iv pe, iv (1 : Int32), iv (3 : Int32)]) rfl k) ?_
            refine own_go (B := (s₁.setTop (mkF m 30 #[rv pa, rv qa, iv pe, iv (1 : Int32), iv (3 : Int32)] []))) (fun t k => XS.goto X0.here hx rfl (pc0 := 74) (pc' := 30) rfl (hb hby own_dm_d74) (by decide) (by decide) k) ?_
            refine own_go (B := (s₁.setTop (mkF m 32 #[rv pa, rv qa, iv pe, iv (1 : Int32), iv (3 : Int32)] [(.int (3 : Int32))]))) (fun t k => XS.iload X0.here hx rfl (hb hby own_dm_d30) rfl k) ?_
            refine own_go (B := (s₁.setTop (mkF m 33 #[rv pa, rv qa, iv pe, iv (1 : Int32), iv (3 : Int32)] [(.ref pa), (.int (3 : Int32))]))) (fun t k => XS.aloadN X0.here hx rfl (hb hby own_dm_d32) rfl rfl k) ?_
            refine own_go (B := (s₁.setTop (mkF m 34 #[rv pa, rv qa, iv pe, iv (1 : Int32), iv (3 : Int32)] [(.int (3 : Int32)), (.int (3 : Int32))]))) (own_alen X0 hx hZ e0 V0 (n := (3 : Int32)) (own_lenL (n := 3) rfl (by decide)) (g := (mkF m 33 #[rv pa, rv qa, iv pe, iv (1 : Int32), iv (3 : Int32)] [(.ref pa), (.int (3 : Int32))])) rfl rfl (hb hby own_dm_d33)) ?_
            have hc_56 : ¬ (3 : Int32) < (3 : Int32) := (by decide)
            refine own_icmpY X0 hx (hb hby own_dm_d34) (pc' := 77) (by decide) (by decide) hc_56 ?_
            refine own_go (B := (s₁.setTop (mkF m 78 #[rv pa, rv qa, iv pe, iv (1 : Int32), iv (3 : Int32)] [(.int (1 : Int32))]))) (fun t k => XS.iloadN X0.here hx rfl (hb hby own_dm_d77) rfl k) ?_
            exact own_retZ X0 hx hlk Bd.returns (hb hby own_dm_d78) (by decide) (own_b rfl) (own_b rfl) (Q := (own_dm_Q Z pa qa pe x0 x1 x2 y0 y1 y2 h0 n0)) ⟨by rw [he]; simp +decide [own_dom, own_okk, own_ss, own_and, hc_47, hc_48, hc_49, hc_50, hc_51, hc_52, hc_53, hc_54, hc_56], N0, e0⟩
        · refine own_go (B := (s₁.setTop (mkF m 50 #[rv pa, rv qa, iv pe, iv (0 : Int32), iv (2 : Int32)] [(.int (0 : Int32))]))) (fun t k => own_iconst (v := (0 : Int32)) X0.here hx rfl (hb hby own_dm_d49) (by decide) k) ?_
          exact own_retZ X0 hx hlk Bd.returns (hb hby own_dm_d50) (by decide) (own_b rfl) (own_b rfl) (Q := (own_dm_Q Z pa qa pe x0 x1 x2 y0 y1 y2 h0 n0)) ⟨by rw [he]; simp +decide [own_dom, own_okk, own_ss, own_and, hc_47, hc_48, hc_49, hc_50, hc_51, hc_52, hc_53], N0, e0⟩
      · refine own_go (B := (s₁.setTop (mkF m 18 #[rv pa, rv qa, iv pe, iv (1 : Int32), .unset] [(.int (0 : Int32))]))) (fun t k => own_iconst (v := (0 : Int32)) X0.here hx rfl (hb hby own_dm_d17) (by decide) k) ?_
        exact own_retZ X0 hx hlk Bd.returns (hb hby own_dm_d18) (by decide) (own_b rfl) (own_b rfl) (Q := (own_dm_Q Z pa qa pe x0 x1 x2 y0 y1 y2 h0 n0)) ⟨by rw [he]; simp +decide [own_dom, own_okk, own_ss, own_and, hc_47, hc_48, hc_49, hc_50], N0, e0⟩
    · refine own_go (B := (s₁.setTop (mkF m 18 #[rv pa, rv qa, iv pe, iv (0 : Int32), .unset] [(.int (0 : Int32))]))) (fun t k => own_iconst (v := (0 : Int32)) X0.here hx rfl (hb hby own_dm_d17) (by decide) k) ?_
      exact own_retZ X0 hx hlk Bd.returns (hb hby own_dm_d18) (by decide) (own_b rfl) (own_b rfl) (Q := (own_dm_Q Z pa qa pe x0 x1 x2 y0 y1 y2 h0 n0)) ⟨by rw [he]; simp +decide [own_dom, own_okk, own_ss, own_and, hc_47, hc_48], N0, e0⟩
  · refine own_go (B := (s₁.setTop (mkF m 1 #[rv pa, rv qa, iv pe, .unset, .unset] [(.int (0 : Int32))]))) (fun t k => own_iconst (v := (0 : Int32)) X0.here hx rfl (hb hby own_dm_d0) (by decide) k) ?_
    refine own_go (B := (s₁.setTop (mkF m 2 #[rv pa, rv qa, iv pe, iv (0 : Int32), .unset] []))) (fun t k => XS.istoreN X0.here hx rfl (hb hby own_dm_d1) rfl (l' := #[rv pa, rv qa, iv pe, iv (0 : Int32), .unset]) rfl k) ?_
    refine own_go (B := (s₁.setTop (mkF m 3 #[rv pa, rv qa, iv pe, iv (0 : Int32), .unset] [(.int (0 : Int32))]))) (fun t k => XS.iloadN X0.here hx rfl (hb hby own_dm_d2) rfl k) ?_
    refine own_go (B := (s₁.setTop (mkF m 4 #[rv pa, rv qa, iv pe, iv (0 : Int32), .unset] [(.int pe), (.int (0 : Int32))]))) (fun t k => XS.iloadN X0.here hx rfl (hb hby own_dm_d3) rfl k) ?_
    have hc_57 : (0 : Int32) < pe := (by rw [he]; decide)
    refine own_icmpN X0 hx (hb hby own_dm_d4) (pn := 7) rfl hc_57 ?_
    refine own_go (B := (s₁.setTop (mkF m 8 #[rv pa, rv qa, iv pe, iv (0 : Int32), .unset] [(.ref pa)]))) (fun t k => XS.aloadN X0.here hx rfl (hb hby own_dm_d7) rfl rfl k) ?_
    refine own_go (B := (s₁.setTop (mkF m 9 #[rv pa, rv qa, iv pe, iv (0 : Int32), .unset] [(.int (0 : Int32)), (.ref pa)]))) (fun t k => XS.iloadN X0.here hx rfl (hb hby own_dm_d8) rfl k) ?_
    refine own_go (B := (s₁.setTop (mkF m 10 #[rv pa, rv qa, iv pe, iv (0 : Int32), .unset] [(.double x0)]))) (own_ldD X0 hx hZ e0 V0 (v := (.double x0)) (by decide) rfl (g := (mkF m 9 #[rv pa, rv qa, iv pe, iv (0 : Int32), .unset] [(.int (0 : Int32)), (.ref pa)])) rfl rfl (hb hby own_dm_d9)) ?_
    refine own_go (B := (s₁.setTop (mkF m 11 #[rv pa, rv qa, iv pe, iv (0 : Int32), .unset] [(.ref qa), (.double x0)]))) (fun t k => XS.aloadN X0.here hx rfl (hb hby own_dm_d10) rfl rfl k) ?_
    refine own_go (B := (s₁.setTop (mkF m 12 #[rv pa, rv qa, iv pe, iv (0 : Int32), .unset] [(.int (0 : Int32)), (.ref qa), (.double x0)]))) (fun t k => XS.iloadN X0.here hx rfl (hb hby own_dm_d11) rfl k) ?_
    refine own_go (B := (s₁.setTop (mkF m 13 #[rv pa, rv qa, iv pe, iv (0 : Int32), .unset] [(.double y0), (.double x0)]))) (own_ldD X0 hx hZ e0 V1 (v := (.double y0)) (by decide) rfl (g := (mkF m 12 #[rv pa, rv qa, iv pe, iv (0 : Int32), .unset] [(.int (0 : Int32)), (.ref qa), (.double x0)])) rfl rfl (hb hby own_dm_d12)) ?_
    refine own_go (B := (s₁.setTop (mkF m 14 #[rv pa, rv qa, iv pe, iv (0 : Int32), .unset] [(.int (own_c x0 y0))]))) (fun t k => XS.dcmpS (x := x0) (y := y0) (v := (own_c x0 y0)) X0.here hx rfl (hb hby own_dm_d13) rfl rfl k) ?_
    refine own_if X0 hx (hb hby own_dm_d14) (pc' := 19) (pn := 17) (by decide) (by decide) rfl (fun (hc_58 : (own_c x0 y0) = (0 : Int32)) => ?_) (fun (hc_58 : ¬ (own_c x0 y0) = (0 : Int32)) => ?_)
    · refine own_go (B := (s₁.setTop (mkF m 22 #[rv pa, rv qa, iv pe, iv (1 : Int32), .unset] []))) (fun t k => XS.iinc X0.here hx rfl (hb hby own_dm_d19) rfl (l' := #[rv pa, rv qa, iv pe, iv (1 : Int32), .unset]) rfl k) ?_
      refine own_go (B := (s₁.setTop (mkF m 2 #[rv pa, rv qa, iv pe, iv (1 : Int32), .unset] []))) (fun t k => XS.goto X0.here hx rfl (pc0 := 22) (pc' := 2) rfl (hb hby own_dm_d22) (by decide) (by decide) k) ?_
      refine own_go (B := (s₁.setTop (mkF m 3 #[rv pa, rv qa, iv pe, iv (1 : Int32), .unset] [(.int (1 : Int32))]))) (fun t k => XS.iloadN X0.here hx rfl (hb hby own_dm_d2) rfl k) ?_
      refine own_go (B := (s₁.setTop (mkF m 4 #[rv pa, rv qa, iv pe, iv (1 : Int32), .unset] [(.int pe), (.int (1 : Int32))]))) (fun t k => XS.iloadN X0.here hx rfl (hb hby own_dm_d3) rfl k) ?_
      have hc_59 : (1 : Int32) < pe := (by rw [he]; decide)
      refine own_icmpN X0 hx (hb hby own_dm_d4) (pn := 7) rfl hc_59 ?_
      refine own_go (B := (s₁.setTop (mkF m 8 #[rv pa, rv qa, iv pe, iv (1 : Int32), .unset] [(.ref pa)]))) (fun t k => XS.aloadN X0.here hx rfl (hb hby own_dm_d7) rfl rfl k) ?_
      refine own_go (B := (s₁.setTop (mkF m 9 #[rv pa, rv qa, iv pe, iv (1 : Int32), .unset] [(.int (1 : Int32)), (.ref pa)]))) (fun t k => XS.iloadN X0.here hx rfl (hb hby own_dm_d8) rfl k) ?_
      refine own_go (B := (s₁.setTop (mkF m 10 #[rv pa, rv qa, iv pe, iv (1 : Int32), .unset] [(.double x1)]))) (own_ldD X0 hx hZ e0 V0 (v := (.double x1)) (by decide) rfl (g := (mkF m 9 #[rv pa, rv qa, iv pe, iv (1 : Int32), .unset] [(.int (1 : Int32)), (.ref pa)])) rfl rfl (hb hby own_dm_d9)) ?_
      refine own_go (B := (s₁.setTop (mkF m 11 #[rv pa, rv qa, iv pe, iv (1 : Int32), .unset] [(.ref qa), (.double x1)]))) (fun t k => XS.aloadN X0.here hx rfl (hb hby own_dm_d10) rfl rfl k) ?_
      refine own_go (B := (s₁.setTop (mkF m 12 #[rv pa, rv qa, iv pe, iv (1 : Int32), .unset] [(.int (1 : Int32)), (.ref qa), (.double x1)]))) (fun t k => XS.iloadN X0.here hx rfl (hb hby own_dm_d11) rfl k) ?_
      refine own_go (B := (s₁.setTop (mkF m 13 #[rv pa, rv qa, iv pe, iv (1 : Int32), .unset] [(.double y1), (.double x1)]))) (own_ldD X0 hx hZ e0 V1 (v := (.double y1)) (by decide) rfl (g := (mkF m 12 #[rv pa, rv qa, iv pe, iv (1 : Int32), .unset] [(.int (1 : Int32)), (.ref qa), (.double x1)])) rfl rfl (hb hby own_dm_d12)) ?_
      refine own_go (B := (s₁.setTop (mkF m 14 #[rv pa, rv qa, iv pe, iv (1 : Int32), .unset] [(.int (own_c x1 y1))]))) (fun t k => XS.dcmpS (x := x1) (y := y1) (v := (own_c x1 y1)) X0.here hx rfl (hb hby own_dm_d13) rfl rfl k) ?_
      refine own_if X0 hx (hb hby own_dm_d14) (pc' := 19) (pn := 17) (by decide) (by decide) rfl (fun (hc_60 : (own_c x1 y1) = (0 : Int32)) => ?_) (fun (hc_60 : ¬ (own_c x1 y1) = (0 : Int32)) => ?_)
      · refine own_go (B := (s₁.setTop (mkF m 22 #[rv pa, rv qa, iv pe, iv (2 : Int32), .unset] []))) (fun t k => XS.iinc X0.here hx rfl (hb hby own_dm_d19) rfl (l' := #[rv pa, rv qa, iv pe, iv (2 : Int32), .unset]) rfl k) ?_
        refine own_go (B := (s₁.setTop (mkF m 2 #[rv pa, rv qa, iv pe, iv (2 : Int32), .unset] []))) (fun t k => XS.goto X0.here hx rfl (pc0 := 22) (pc' := 2) rfl (hb hby own_dm_d22) (by decide) (by decide) k) ?_
        refine own_go (B := (s₁.setTop (mkF m 3 #[rv pa, rv qa, iv pe, iv (2 : Int32), .unset] [(.int (2 : Int32))]))) (fun t k => XS.iloadN X0.here hx rfl (hb hby own_dm_d2) rfl k) ?_
        refine own_go (B := (s₁.setTop (mkF m 4 #[rv pa, rv qa, iv pe, iv (2 : Int32), .unset] [(.int pe), (.int (2 : Int32))]))) (fun t k => XS.iloadN X0.here hx rfl (hb hby own_dm_d3) rfl k) ?_
        have hc_61 : (2 : Int32) < pe := (by rw [he]; decide)
        refine own_icmpN X0 hx (hb hby own_dm_d4) (pn := 7) rfl hc_61 ?_
        refine own_go (B := (s₁.setTop (mkF m 8 #[rv pa, rv qa, iv pe, iv (2 : Int32), .unset] [(.ref pa)]))) (fun t k => XS.aloadN X0.here hx rfl (hb hby own_dm_d7) rfl rfl k) ?_
        refine own_go (B := (s₁.setTop (mkF m 9 #[rv pa, rv qa, iv pe, iv (2 : Int32), .unset] [(.int (2 : Int32)), (.ref pa)]))) (fun t k => XS.iloadN X0.here hx rfl (hb hby own_dm_d8) rfl k) ?_
        refine own_go (B := (s₁.setTop (mkF m 10 #[rv pa, rv qa, iv pe, iv (2 : Int32), .unset] [(.double x2)]))) (own_ldD X0 hx hZ e0 V0 (v := (.double x2)) (by decide) rfl (g := (mkF m 9 #[rv pa, rv qa, iv pe, iv (2 : Int32), .unset] [(.int (2 : Int32)), (.ref pa)])) rfl rfl (hb hby own_dm_d9)) ?_
        refine own_go (B := (s₁.setTop (mkF m 11 #[rv pa, rv qa, iv pe, iv (2 : Int32), .unset] [(.ref qa), (.double x2)]))) (fun t k => XS.aloadN X0.here hx rfl (hb hby own_dm_d10) rfl rfl k) ?_
        refine own_go (B := (s₁.setTop (mkF m 12 #[rv pa, rv qa, iv pe, iv (2 : Int32), .unset] [(.int (2 : Int32)), (.ref qa), (.double x2)]))) (fun t k => XS.iloadN X0.here hx rfl (hb hby own_dm_d11) rfl k) ?_
        refine own_go (B := (s₁.setTop (mkF m 13 #[rv pa, rv qa, iv pe, iv (2 : Int32), .unset] [(.double y2), (.double x2)]))) (own_ldD X0 hx hZ e0 V1 (v := (.double y2)) (by decide) rfl (g := (mkF m 12 #[rv pa, rv qa, iv pe, iv (2 : Int32), .unset] [(.int (2 : Int32)), (.ref qa), (.double x2)])) rfl rfl (hb hby own_dm_d12)) ?_
        refine own_go (B := (s₁.setTop (mkF m 14 #[rv pa, rv qa, iv pe, iv (2 : Int32), .unset] [(.int (own_c x2 y2))]))) (fun t k => XS.dcmpS (x := x2) (y := y2) (v := (own_c x2 y2)) X0.here hx rfl (hb hby own_dm_d13) rfl rfl k) ?_
        refine own_if X0 hx (hb hby own_dm_d14) (pc' := 19) (pn := 17) (by decide) (by decide) rfl (fun (hc_62 : (own_c x2 y2) = (0 : Int32)) => ?_) (fun (hc_62 : ¬ (own_c x2 y2) = (0 : Int32)) => ?_)
        · refine own_go (B := (s₁.setTop (mkF m 22 #[rv pa, rv qa, iv pe, iv (3 : Int32), .unset] []))) (fun t k => XS.iinc X0.here hx rfl (hb hby own_dm_d19) rfl (l' := #[rv pa, rv qa, iv pe, iv (3 : Int32), .unset]) rfl k) ?_
          refine own_go (B := (s₁.setTop (mkF m 2 #[rv pa, rv qa, iv pe, iv (3 : Int32), .unset] []))) (fun t k => XS.goto X0.here hx rfl (pc0 := 22) (pc' := 2) rfl (hb hby own_dm_d22) (by decide) (by decide) k) ?_
          refine own_go (B := (s₁.setTop (mkF m 3 #[rv pa, rv qa, iv pe, iv (3 : Int32), .unset] [(.int (3 : Int32))]))) (fun t k => XS.iloadN X0.here hx rfl (hb hby own_dm_d2) rfl k) ?_
          refine own_go (B := (s₁.setTop (mkF m 4 #[rv pa, rv qa, iv pe, iv (3 : Int32), .unset] [(.int pe), (.int (3 : Int32))]))) (fun t k => XS.iloadN X0.here hx rfl (hb hby own_dm_d3) rfl k) ?_
          have hc_63 : ¬ (3 : Int32) < pe := (by rw [he]; decide)
          refine own_icmpY X0 hx (hb hby own_dm_d4) (pc' := 25) (by decide) (by decide) hc_63 ?_
          refine own_go (B := (s₁.setTop (mkF m 26 #[rv pa, rv qa, iv pe, iv (3 : Int32), .unset] [(.int (0 : Int32))]))) (fun t k => own_iconst (v := (0 : Int32)) X0.here hx rfl (hb hby own_dm_d25) (by decide) k) ?_
          refine own_go (B := (s₁.setTop (mkF m 27 #[rv pa, rv qa, iv pe, iv (0 : Int32), .unset] []))) (fun t k => XS.istoreN X0.here hx rfl (hb hby own_dm_d26) rfl (l' := #[rv pa, rv qa, iv pe, iv (0 : Int32), .unset]) rfl k) ?_
          refine own_go (B := (s₁.setTop (mkF m 28 #[rv pa, rv qa, iv pe, iv (0 : Int32), .unset] [(.int pe)]))) (fun t k => XS.iloadN X0.here hx rfl (hb hby own_dm_d27) rfl k) ?_
          refine own_cast (B := (s₁.setTop (mkF m 28 #[rv pa, rv qa, iv pe, iv (0 : Int32), .unset] [(.int (3 : Int32))]))) (by rw [he]) ?_
          refine own_go (B := (s₁.setTop (mkF m 30 #[rv pa, rv qa, iv pe, iv (0 : Int32), iv (3 : Int32)] []))) (fun t k => XS.istore X0.here hx rfl (hb hby own_dm_d28) rfl (l' := #[rv pa, rv qa, iv pe, iv (0 : Int32), iv (3 : Int32)]) rfl k) ?_
          refine own_go (B := (s₁.setTop (mkF m 32 #[rv pa, rv qa, iv pe, iv (0 : Int32), iv (3 : Int32)] [(.int (3 : Int32))]))) (fun t k => XS.iload X0.here hx rfl (hb hby own_dm_d30) rfl k) ?_
          refine own_go (B := (s₁.setTop (mkF m 33 #[rv pa, rv qa, iv pe, iv (0 : Int32), iv (3 : Int32)] [(.ref pa), (.int (3 : Int32))]))) (fun t k => XS.aloadN X0.here hx rfl (hb hby own_dm_d32) rfl rfl k) ?_
          refine own_go (B := (s₁.setTop (mkF m 34 #[rv pa, rv qa, iv pe, iv (0 : Int32), iv (3 : Int32)] [(.int (3 : Int32)), (.int (3 : Int32))]))) (own_alen X0 hx hZ e0 V0 (n := (3 : Int32)) (own_lenL (n := 3) rfl (by decide)) (g := (mkF m 33 #[rv pa, rv qa, iv pe, iv (0 : Int32), iv (3 : Int32)] [(.ref pa), (.int (3 : Int32))])) rfl rfl (hb hby own_dm_d33)) ?_
          have hc_64 : ¬ (3 : Int32) < (3 : Int32) := (by decide)
          refine own_icmpY X0 hx (hb hby own_dm_d34) (pc' := 77) (by decide) (by decide) hc_64 ?_
          refine own_go (B := (s₁.setTop (mkF m 78 #[rv pa, rv qa, iv pe, iv (0 : Int32), iv (3 : Int32)] [(.int (0 : Int32))]))) (fun t k => XS.iloadN X0.here hx rfl (hb hby own_dm_d77) rfl k) ?_
          exact own_retZ X0 hx hlk Bd.returns (hb hby own_dm_d78) (by decide) (own_b rfl) (own_b rfl) (Q := (own_dm_Q Z pa qa pe x0 x1 x2 y0 y1 y2 h0 n0)) ⟨by rw [he]; simp +decide [own_dom, own_okk, own_ss, own_and, hc_57, hc_58, hc_59, hc_60, hc_61, hc_62, hc_63, hc_64], N0, e0⟩
        · refine own_go (B := (s₁.setTop (mkF m 18 #[rv pa, rv qa, iv pe, iv (2 : Int32), .unset] [(.int (0 : Int32))]))) (fun t k => own_iconst (v := (0 : Int32)) X0.here hx rfl (hb hby own_dm_d17) (by decide) k) ?_
          exact own_retZ X0 hx hlk Bd.returns (hb hby own_dm_d18) (by decide) (own_b rfl) (own_b rfl) (Q := (own_dm_Q Z pa qa pe x0 x1 x2 y0 y1 y2 h0 n0)) ⟨by rw [he]; simp +decide [own_dom, own_okk, own_ss, own_and, hc_57, hc_58, hc_59, hc_60, hc_61, hc_62], N0, e0⟩
      · refine own_go (B := (s₁.setTop (mkF m 18 #[rv pa, rv qa, iv pe, iv (1 : Int32), .unset] [(.int (0 : Int32))]))) (fun t k => own_iconst (v := (0 : Int32)) X0.here hx rfl (hb hby own_dm_d17) (by decide) k) ?_
        exact own_retZ X0 hx hlk Bd.returns (hb hby own_dm_d18) (by decide) (own_b rfl) (own_b rfl) (Q := (own_dm_Q Z pa qa pe x0 x1 x2 y0 y1 y2 h0 n0)) ⟨by rw [he]; simp +decide [own_dom, own_okk, own_ss, own_and, hc_57, hc_58, hc_59, hc_60], N0, e0⟩
    · refine own_go (B := (s₁.setTop (mkF m 18 #[rv pa, rv qa, iv pe, iv (0 : Int32), .unset] [(.int (0 : Int32))]))) (fun t k => own_iconst (v := (0 : Int32)) X0.here hx rfl (hb hby own_dm_d17) (by decide) k) ?_
      exact own_retZ X0 hx hlk Bd.returns (hb hby own_dm_d18) (by decide) (own_b rfl) (own_b rfl) (Q := (own_dm_Q Z pa qa pe x0 x1 x2 y0 y1 y2 h0 n0)) ⟨by rw [he]; simp +decide [own_dom, own_okk, own_ss, own_and, hc_57, hc_58], N0, e0⟩

theorem own_law_pn : plainName "com/example/bindweave/bindweave/select/DominanceDominatesPinLaw" = true := by first | (simp [plainName, overriddenIn]; done) | decide +kernel
theorem own_law_ef (m : MethodId) (p0 : Int32) (p1 : Int32) (p2 : Int32) : entryFrame m #[(.int p0), (.int p1), (.int p2)] maxLocals = mkF m 0 #[iv p0, iv p1, iv p2, .unset, .unset, .unset, .unset, .unset, .unset, .unset, .unset, .unset, .unset, .unset, .unset, .unset, .unset, .unset, .unset, .unset, .unset, .unset, .unset, .unset, .unset, .unset] [] := by first | (simp [entryFrame, mkF, argsToLocals, Value.category, maxLocals]; done) | rfl
def own_law_Q (Z : State) (p0 : Int32) (p1 : Int32) (p2 : Int32) (h0 : Heap) (n0 : Nat) (v : Option Value) (h : Heap) (L : List Loc) : Prop := v = some (.int 1) ∧ Fr n0 L
set_option maxRecDepth 65536 in
set_option maxHeartbeats 40000000 in
theorem own_law (l : Launch) (Z : State) (a0 : Array Value) (hw : ∀ d ∈ tables_1, d.before a0 Z = true) (ws : List Jvm.Cond) (p0 : Int32) (p1 : Int32) (p2 : Int32) (h0 : Heap) (n0 : Nat) (Z0 : n0 ≤ h0.size) :
    MetFree l x (head1 (Jvm.Cond.code x code maxLocals ret :: ws) room_1) (fun a U => a = #[(.int p0), (.int p1), (.int p2)] ∧ Z.Warmed39 U.vm ∧ U.heap = h0) (fun _ _ _ _ _ => True) (fun _ U o U' => ∃ v L, o = .returned v ∧ (own_law_Q Z p0 p1 p2 h0 n0) v U'.heap L ∧ FrameEnd U o U' L 16 128) := by
  refine MetFree.of_bodySF (plainFor_of_name own_law_pn) hisR ?_
  intro p e s m args below meth c s₁ Bd hml0 hP hK
  obtain ⟨rfl, hZ, hh⟩ := hP
  have hx := Bd.exec
  have hby := Bd.bytes
  have hml : c.maxLocals = 26 := hml0
  have hown : s.vm.findClass "com/example/bindweave/bindweave/select/DominanceDominatesPinLaw" = some m.cls := findClass_of_methodNamed Bd.named
  have hnm := (name_of_methodNamed Bd.named Bd.method).1
  have hlk : meth.locks = false := Bd.notSynchronized
  have X0 : Stand p l e room_1 s m #[(.int p0), (.int p1), (.int p2)] below meth c s₁ [] 0 0 := Stand.of_body Bd
  have e0 : s₁.heap = h0 := by rw [← hh, Bd.state]; rfl
  have N0 := Fr.nil n0
  have w_0 := hw _ (List.mem_of_getElem? (l := tables_1) (i := 0) rfl)
  have w_1 := hw _ (List.mem_of_getElem? (l := tables_1) (i := 1) rfl)
  have w_2 := hw _ (List.mem_of_getElem? (l := tables_1) (i := 2) rfl)
  have w_3 := hw _ (List.mem_of_getElem? (l := tables_1) (i := 3) rfl)
  have w_4 := hw _ (List.mem_of_getElem? (l := tables_1) (i := 4) rfl)
  have w_5 := hw _ (List.mem_of_getElem? (l := tables_1) (i := 5) rfl)
  have w_6 := hw _ (List.mem_of_getElem? (l := tables_1) (i := 6) rfl)
  have w_7 := hw _ (List.mem_of_getElem? (l := tables_1) (i := 7) rfl)
  have w_8 := hw _ (List.mem_of_getElem? (l := tables_1) (i := 8) rfl)
  show own_G p.tables e below (fun o U' => ∃ v L, o = .returned v ∧ (own_law_Q Z p0 p1 p2 h0 n0) v U'.heap L ∧ FrameEnd s o U' L 16 128) (s₁.setTop (entryFrame m #[(.int p0), (.int p1), (.int p2)] maxLocals))
  refine own_go (B := s₁.setTop (mkF m 0 #[iv p0, iv p1, iv p2, .unset, .unset, .unset, .unset, .unset, .unset, .unset, .unset, .unset, .unset, .unset, .unset, .unset, .unset, .unset, .unset, .unset, .unset, .unset, .unset, .unset, .unset, .unset] [])) (fun t k => castTop (own_law_ef m p0 p1 p2) k) ?_
  have K0 := Keep.refl h0 []
  refine own_go (B := (s₁.setTop (mkF m 1 #[iv p0, iv p1, iv p2, .unset, .unset, .unset, .unset, .unset, .unset, .unset, .unset, .unset, .unset, .unset, .unset, .unset, .unset, .unset, .unset, .unset, .unset, .unset, .unset, .unset, .unset, .unset] [(.int p0)]))) (fun t k => XS.iloadN X0.here hx rfl (hb hby at_0) rfl k) ?_
  refine own_go (B := (s₁.setTop (mkF m 2 #[iv p0, iv p1, iv p2, .unset, .unset, .unset, .unset, .unset, .unset, .unset, .unset, .unset, .unset, .unset, .unset, .unset, .unset, .unset, .unset, .unset, .unset, .unset, .unset, .unset, .unset, .unset] [(.int (0 : Int32)), (.int p0)]))) (fun t k => own_iconst (v := (0 : Int32)) X0.here hx rfl (hb hby at_1) (by decide) k) ?_
  obtain ⟨_, _, ⟨T1, L1, k1, n1⟩, -, X1, ⟨Lc1, hQ1, l1, y1, z1⟩, st1⟩ := Jvm.LawKit.callS X0 hx (y := own_y1) hown (mvT hZ w_0) (mvT hZ w_1) (mvT hZ w_2) (mvT hZ w_3) (by decide) (backOf (W := 0) (own_val l Z a0 hw [] p0 (0 : Int32) h0 n0) hZ w_3 w_2 (by decide) (by decide)) (g := (mkF m 2 #[iv p0, iv p1, iv p2, .unset, .unset, .unset, .unset, .unset, .unset, .unset, .unset, .unset, .unset, .unset, .unset, .unset, .unset, .unset, .unset, .unset, .unset, .unset, .unset, .unset, .unset, .unset] [(.int (0 : Int32)), (.int p0)])) rfl (by rw [hml]; rfl) (argsL := [(.int p0), (.int (0 : Int32))]) (rest := []) (lenOf own_pd1 rfl) rfl (by show 2 * 0 + _ ≤ _; exact own_b rfl) (hb hby at_2) (fun _ _ => ⟨rfl, e0, (own_b rfl : 0 + 0 ≤ _), (own_b rfl : 0 + 0 ≤ _)⟩)
  dsimp only [Pt.U, Pt.locs, Pt.cells, Pt.slots] at X1 l1 y1 z1 st1 hQ1
  obtain ⟨d1, rfl, Nq1, eq1⟩ := hQ1
  obtain ⟨L1, X1, N1⟩ := own_absC (K := 0) (K' := 0) X1 l1 y1 z1 N0 Nq1
  have e1 : T1.heap = h0 := eq1
  refine own_go (B := (T1.setTop (mkF m 5 #[iv p0, iv p1, iv p2, .unset, .unset, .unset, .unset, .unset, .unset, .unset, .unset, .unset, .unset, .unset, .unset, .unset, .unset, .unset, .unset, .unset, .unset, .unset, .unset, .unset, .unset, .unset] [(.double d1)]))) st1 ?_
  refine own_go (B := (T1.setTop (mkF m 6 #[iv p0, iv p1, iv p2, .val (.double d1), .second, .unset, .unset, .unset, .unset, .unset, .unset, .unset, .unset, .unset, .unset, .unset, .unset, .unset, .unset, .unset, .unset, .unset, .unset, .unset, .unset, .unset] []))) (fun t k => XS.dstoreN X1.here hx rfl (hb hby at_5) rfl (l' := #[iv p0, iv p1, iv p2, .val (.double d1), .second, .unset, .unset, .unset, .unset, .unset, .unset, .unset, .unset, .unset, .unset, .unset, .unset, .unset, .unset, .unset, .unset, .unset, .unset, .unset, .unset, .unset]) rfl k) ?_
  refine own_go (B := (T1.setTop (mkF m 7 #[iv p0, iv p1, iv p2, .val (.double d1), .second, .unset, .unset, .unset, .unset, .unset, .unset, .unset, .unset, .unset, .unset, .unset, .unset, .unset, .unset, .unset, .unset, .unset, .unset, .unset, .unset, .unset] [(.int p0)]))) (fun t k => XS.iloadN X1.here hx rfl (hb hby at_6) rfl k) ?_
  refine own_go (B := (T1.setTop (mkF m 8 #[iv p0, iv p1, iv p2, .val (.double d1), .second, .unset, .unset, .unset, .unset, .unset, .unset, .unset, .unset, .unset, .unset, .unset, .unset, .unset, .unset, .unset, .unset, .unset, .unset, .unset, .unset, .unset] [(.int (1 : Int32)), (.int p0)]))) (fun t k => own_iconst (v := (1 : Int32)) X1.here hx rfl (hb hby at_7) (by decide) k) ?_
  obtain ⟨_, _, ⟨T2, L2, k2, n2⟩, -, X2, ⟨Lc2, hQ2, l2, y2, z2⟩, st2⟩ := Jvm.LawKit.callS X1 hx (y := own_y1) hown (mvT hZ w_0) (mvT hZ w_1) (mvT hZ w_2) (mvT hZ w_3) (by decide) (backOf (W := 0) (own_val l Z a0 hw [] p0 (1 : Int32) h0 n0) hZ w_3 w_2 (by decide) (by decide)) (g := (mkF m 8 #[iv p0, iv p1, iv p2, .val (.double d1), .second, .unset, .unset, .unset, .unset, .unset, .unset, .unset, .unset, .unset, .unset, .unset, .unset, .unset, .unset, .unset, .unset, .unset, .unset, .unset, .unset, .unset] [(.int (1 : Int32)), (.int p0)])) rfl (by rw [hml]; rfl) (argsL := [(.int p0), (.int (1 : Int32))]) (rest := []) (lenOf own_pd1 rfl) rfl (by show 2 * 0 + _ ≤ _; exact own_b rfl) (hb hby at_8) (fun _ _ => ⟨rfl, e1, (own_b rfl : 0 + 0 ≤ _), (own_b rfl : 0 + 0 ≤ _)⟩)
  dsimp only [Pt.U, Pt.locs, Pt.cells, Pt.slots] at X2 l2 y2 z2 st2 hQ2
  obtain ⟨d2, rfl, Nq2, eq2⟩ := hQ2
  obtain ⟨L2, X2, N2⟩ := own_absC (K := 0) (K' := 0) X2 l2 y2 z2 N1 Nq2
  have e2 : T2.heap = h0 := eq2
  refine own_go (B := (T2.setTop (mkF m 11 #[iv p0, iv p1, iv p2, .val (.double d1), .second, .unset, .unset, .unset, .unset, .unset, .unset, .unset, .unset, .unset, .unset, .unset, .unset, .unset, .unset, .unset, .unset, .unset, .unset, .unset, .unset, .unset] [(.double d2)]))) st2 ?_
  refine own_go (B := (T2.setTop (mkF m 13 #[iv p0, iv p1, iv p2, .val (.double d1), .second, .val (.double d2), .second, .unset, .unset, .unset, .unset, .unset, .unset, .unset, .unset, .unset, .unset, .unset, .unset, .unset, .unset, .unset, .unset, .unset, .unset, .unset] []))) (fun t k => XS.dstore X2.here hx rfl (hb hby at_11) rfl (l' := #[iv p0, iv p1, iv p2, .val (.double d1), .second, .val (.double d2), .second, .unset, .unset, .unset, .unset, .unset, .unset, .unset, .unset, .unset, .unset, .unset, .unset, .unset, .unset, .unset, .unset, .unset, .unset, .unset]) rfl k) ?_
  refine own_go (B := (T2.setTop (mkF m 14 #[iv p0, iv p1, iv p2, .val (.double d1), .second, .val (.double d2), .second, .unset, .unset, .unset, .unset, .unset, .unset, .unset, .unset, .unset, .unset, .unset, .unset, .unset, .unset, .unset, .unset, .unset, .unset, .unset] [(.int p0)]))) (fun t k => XS.iloadN X2.here hx rfl (hb hby at_13) rfl k) ?_
  refine own_go (B := (T2.setTop (mkF m 15 #[iv p0, iv p1, iv p2, .val (.double d1), .second, .val (.double d2), .second, .unset, .unset, .unset, .unset, .unset, .unset, .unset, .unset, .unset, .unset, .unset, .unset, .unset, .unset, .unset, .unset, .unset, .unset, .unset] [(.int (2 : Int32)), (.int p0)]))) (fun t k => own_iconst (v := (2 : Int32)) X2.here hx rfl (hb hby at_14) (by decide) k) ?_
  obtain ⟨_, _, ⟨T3, L3, k3, n3⟩, -, X3, ⟨Lc3, hQ3, l3, y3, z3⟩, st3⟩ := Jvm.LawKit.callS X2 hx (y := own_y1) hown (mvT hZ w_0) (mvT hZ w_1) (mvT hZ w_2) (mvT hZ w_3) (by decide) (backOf (W := 0) (own_val l Z a0 hw [] p0 (2 : Int32) h0 n0) hZ w_3 w_2 (by decide) (by decide)) (g := (mkF m 15 #[iv p0, iv p1, iv p2, .val (.double d1), .second, .val (.double d2), .second, .unset, .unset, .unset, .unset, .unset, .unset, .unset, .unset, .unset, .unset, .unset, .unset, .unset, .unset, .unset, .unset, .unset, .unset, .unset] [(.int (2 : Int32)), (.int p0)])) rfl (by rw [hml]; rfl) (argsL := [(.int p0), (.int (2 : Int32))]) (rest := []) (lenOf own_pd1 rfl) rfl (by show 2 * 0 + _ ≤ _; exact own_b rfl) (hb hby at_15) (fun _ _ => ⟨rfl, e2, (own_b rfl : 0 + 0 ≤ _), (own_b rfl : 0 + 0 ≤ _)⟩)
  dsimp only [Pt.U, Pt.locs, Pt.cells, Pt.slots] at X3 l3 y3 z3 st3 hQ3
  obtain ⟨d3, rfl, Nq3, eq3⟩ := hQ3
  obtain ⟨L3, X3, N3⟩ := own_absC (K := 0) (K' := 0) X3 l3 y3 z3 N2 Nq3
  have e3 : T3.heap = h0 := eq3
  refine own_go (B := (T3.setTop (mkF m 18 #[iv p0, iv p1, iv p2, .val (.double d1), .second, .val (.double d2), .second, .unset, .unset, .unset, .unset, .unset, .unset, .unset, .unset, .unset, .unset, .unset, .unset, .unset, .unset, .unset, .unset, .unset, .unset, .unset] [(.double d3)]))) st3 ?_
  refine own_go (B := (T3.setTop (mkF m 20 #[iv p0, iv p1, iv p2, .val (.double d1), .second, .val (.double d2), .second, .val (.double d3), .second, .unset, .unset, .unset, .unset, .unset, .unset, .unset, .unset, .unset, .unset, .unset, .unset, .unset, .unset, .unset, .unset, .unset] []))) (fun t k => XS.dstore X3.here hx rfl (hb hby at_18) rfl (l' := #[iv p0, iv p1, iv p2, .val (.double d1), .second, .val (.double d2), .second, .val (.double d3), .second, .unset, .unset, .unset, .unset, .unset, .unset, .unset, .unset, .unset, .unset, .unset, .unset, .unset, .unset, .unset, .unset, .unset]) rfl k) ?_
  refine own_go (B := (T3.setTop (mkF m 21 #[iv p0, iv p1, iv p2, .val (.double d1), .second, .val (.double d2), .second, .val (.double d3), .second, .unset, .unset, .unset, .unset, .unset, .unset, .unset, .unset, .unset, .unset, .unset, .unset, .unset, .unset, .unset, .unset, .unset] [(.int p1)]))) (fun t k => XS.iloadN X3.here hx rfl (hb hby at_20) rfl k) ?_
  refine own_go (B := (T3.setTop (mkF m 22 #[iv p0, iv p1, iv p2, .val (.double d1), .second, .val (.double d2), .second, .val (.double d3), .second, .unset, .unset, .unset, .unset, .unset, .unset, .unset, .unset, .unset, .unset, .unset, .unset, .unset, .unset, .unset, .unset, .unset] [(.int (0 : Int32)), (.int p1)]))) (fun t k => own_iconst (v := (0 : Int32)) X3.here hx rfl (hb hby at_21) (by decide) k) ?_
  obtain ⟨_, _, ⟨T4, L4, k4, n4⟩, -, X4, ⟨Lc4, hQ4, l4, y4, z4⟩, st4⟩ := Jvm.LawKit.callS X3 hx (y := own_y1) hown (mvT hZ w_0) (mvT hZ w_1) (mvT hZ w_2) (mvT hZ w_3) (by decide) (backOf (W := 0) (own_val l Z a0 hw [] p1 (0 : Int32) h0 n0) hZ w_3 w_2 (by decide) (by decide)) (g := (mkF m 22 #[iv p0, iv p1, iv p2, .val (.double d1), .second, .val (.double d2), .second, .val (.double d3), .second, .unset, .unset, .unset, .unset, .unset, .unset, .unset, .unset, .unset, .unset, .unset, .unset, .unset, .unset, .unset, .unset, .unset] [(.int (0 : Int32)), (.int p1)])) rfl (by rw [hml]; rfl) (argsL := [(.int p1), (.int (0 : Int32))]) (rest := []) (lenOf own_pd1 rfl) rfl (by show 2 * 0 + _ ≤ _; exact own_b rfl) (hb hby at_22) (fun _ _ => ⟨rfl, e3, (own_b rfl : 0 + 0 ≤ _), (own_b rfl : 0 + 0 ≤ _)⟩)
  dsimp only [Pt.U, Pt.locs, Pt.cells, Pt.slots] at X4 l4 y4 z4 st4 hQ4
  obtain ⟨d4, rfl, Nq4, eq4⟩ := hQ4
  obtain ⟨L4, X4, N4⟩ := own_absC (K := 0) (K' := 0) X4 l4 y4 z4 N3 Nq4
  have e4 : T4.heap = h0 := eq4
  refine own_go (B := (T4.setTop (mkF m 25 #[iv p0, iv p1, iv p2, .val (.double d1), .second, .val (.double d2), .second, .val (.double d3), .second, .unset, .unset, .unset, .unset, .unset, .unset, .unset, .unset, .unset, .unset, .unset, .unset, .unset, .unset, .unset, .unset, .unset] [(.double d4)]))) st4 ?_
  refine own_go (B := (T4.setTop (mkF m 27 #[iv p0, iv p1, iv p2, .val (.double d1), .second, .val (.double d2), .second, .val (.double d3), .second, .val (.double d4), .second, .unset, .unset, .unset, .unset, .unset, .unset, .unset, .unset, .unset, .unset, .unset, .unset, .unset, .unset, .unset] []))) (fun t k => XS.dstore X4.here hx rfl (hb hby at_25) rfl (l' := #[iv p0, iv p1, iv p2, .val (.double d1), .second, .val (.double d2), .second, .val (.double d3), .second, .val (.double d4), .second, .unset, .unset, .unset, .unset, .unset, .unset, .unset, .unset, .unset, .unset, .unset, .unset, .unset, .unset, .unset]) rfl k) ?_
  refine own_go (B := (T4.setTop (mkF m 28 #[iv p0, iv p1, iv p2, .val (.double d1), .second, .val (.double d2), .second, .val (.double d3), .second, .val (.double d4), .second, .unset, .unset, .unset, .unset, .unset, .unset, .unset, .unset, .unset, .unset, .unset, .unset, .unset, .unset, .unset] [(.int p1)]))) (fun t k => XS.iloadN X4.here hx rfl (hb hby at_27) rfl k) ?_
  refine own_go (B := (T4.setTop (mkF m 29 #[iv p0, iv p1, iv p2, .val (.double d1), .second, .val (.double d2), .second, .val (.double d3), .second, .val (.double d4), .second, .unset, .unset, .unset, .unset, .unset, .unset, .unset, .unset, .unset, .unset, .unset, .unset, .unset, .unset, .unset] [(.int (1 : Int32)), (.int p1)]))) (fun t k => own_iconst (v := (1 : Int32)) X4.here hx rfl (hb hby at_28) (by decide) k) ?_
  obtain ⟨_, _, ⟨T5, L5, k5, n5⟩, -, X5, ⟨Lc5, hQ5, l5, y5, z5⟩, st5⟩ := Jvm.LawKit.callS X4 hx (y := own_y1) hown (mvT hZ w_0) (mvT hZ w_1) (mvT hZ w_2) (mvT hZ w_3) (by decide) (backOf (W := 0) (own_val l Z a0 hw [] p1 (1 : Int32) h0 n0) hZ w_3 w_2 (by decide) (by decide)) (g := (mkF m 29 #[iv p0, iv p1, iv p2, .val (.double d1), .second, .val (.double d2), .second, .val (.double d3), .second, .val (.double d4), .second, .unset, .unset, .unset, .unset, .unset, .unset, .unset, .unset, .unset, .unset, .unset, .unset, .unset, .unset, .unset] [(.int (1 : Int32)), (.int p1)])) rfl (by rw [hml]; rfl) (argsL := [(.int p1), (.int (1 : Int32))]) (rest := []) (lenOf own_pd1 rfl) rfl (by show 2 * 0 + _ ≤ _; exact own_b rfl) (hb hby at_29) (fun _ _ => ⟨rfl, e4, (own_b rfl : 0 + 0 ≤ _), (own_b rfl : 0 + 0 ≤ _)⟩)
  dsimp only [Pt.U, Pt.locs, Pt.cells, Pt.slots] at X5 l5 y5 z5 st5 hQ5
  obtain ⟨d5, rfl, Nq5, eq5⟩ := hQ5
  obtain ⟨L5, X5, N5⟩ := own_absC (K := 0) (K' := 0) X5 l5 y5 z5 N4 Nq5
  have e5 : T5.heap = h0 := eq5
  refine own_go (B := (T5.setTop (mkF m 32 #[iv p0, iv p1, iv p2, .val (.double d1), .second, .val (.double d2), .second, .val (.double d3), .second, .val (.double d4), .second, .unset, .unset, .unset, .unset, .unset, .unset, .unset, .unset, .unset, .unset, .unset, .unset, .unset, .unset, .unset] [(.double d5)]))) st5 ?_
  refine own_go (B := (T5.setTop (mkF m 34 #[iv p0, iv p1, iv p2, .val (.double d1), .second, .val (.double d2), .second, .val (.double d3), .second, .val (.double d4), .second, .val (.double d5), .second, .unset, .unset, .unset, .unset, .unset, .unset, .unset, .unset, .unset, .unset, .unset, .unset, .unset] []))) (fun t k => XS.dstore X5.here hx rfl (hb hby at_32) rfl (l' := #[iv p0, iv p1, iv p2, .val (.double d1), .second, .val (.double d2), .second, .val (.double d3), .second, .val (.double d4), .second, .val (.double d5), .second, .unset, .unset, .unset, .unset, .unset, .unset, .unset, .unset, .unset, .unset, .unset, .unset, .unset]) rfl k) ?_
  refine own_go (B := (T5.setTop (mkF m 35 #[iv p0, iv p1, iv p2, .val (.double d1), .second, .val (.double d2), .second, .val (.double d3), .second, .val (.double d4), .second, .val (.double d5), .second, .unset, .unset, .unset, .unset, .unset, .unset, .unset, .unset, .unset, .unset, .unset, .unset, .unset] [(.int p1)]))) (fun t k => XS.iloadN X5.here hx rfl (hb hby at_34) rfl k) ?_
  refine own_go (B := (T5.setTop (mkF m 36 #[iv p0, iv p1, iv p2, .val (.double d1), .second, .val (.double d2), .second, .val (.double d3), .second, .val (.double d4), .second, .val (.double d5), .second, .unset, .unset, .unset, .unset, .unset, .unset, .unset, .unset, .unset, .unset, .unset, .unset, .unset] [(.int (2 : Int32)), (.int p1)]))) (fun t k => own_iconst (v := (2 : Int32)) X5.here hx rfl (hb hby at_35) (by decide) k) ?_
  obtain ⟨_, _, ⟨T6, L6, k6, n6⟩, -, X6, ⟨Lc6, hQ6, l6, y6, z6⟩, st6⟩ := Jvm.LawKit.callS X5 hx (y := own_y1) hown (mvT hZ w_0) (mvT hZ w_1) (mvT hZ w_2) (mvT hZ w_3) (by decide) (backOf (W := 0) (own_val l Z a0 hw [] p1 (2 : Int32) h0 n0) hZ w_3 w_2 (by decide) (by decide)) (g := (mkF m 36 #[iv p0, iv p1, iv p2, .val (.double d1), .second, .val (.double d2), .second, .val (.double d3), .second, .val (.double d4), .second, .val (.double d5), .second, .unset, .unset, .unset, .unset, .unset, .unset, .unset, .unset, .unset, .unset, .unset, .unset, .unset] [(.int (2 : Int32)), (.int p1)])) rfl (by rw [hml]; rfl) (argsL := [(.int p1), (.int (2 : Int32))]) (rest := []) (lenOf own_pd1 rfl) rfl (by show 2 * 0 + _ ≤ _; exact own_b rfl) (hb hby at_36) (fun _ _ => ⟨rfl, e5, (own_b rfl : 0 + 0 ≤ _), (own_b rfl : 0 + 0 ≤ _)⟩)
  dsimp only [Pt.U, Pt.locs, Pt.cells, Pt.slots] at X6 l6 y6 z6 st6 hQ6
  obtain ⟨d6, rfl, Nq6, eq6⟩ := hQ6
  obtain ⟨L6, X6, N6⟩ := own_absC (K := 0) (K' := 0) X6 l6 y6 z6 N5 Nq6
  have e6 : T6.heap = h0 := eq6
  refine own_go (B := (T6.setTop (mkF m 39 #[iv p0, iv p1, iv p2, .val (.double d1), .second, .val (.double d2), .second, .val (.double d3), .second, .val (.double d4), .second, .val (.double d5), .second, .unset, .unset, .unset, .unset, .unset, .unset, .unset, .unset, .unset, .unset, .unset, .unset, .unset] [(.double d6)]))) st6 ?_
  refine own_go (B := (T6.setTop (mkF m 41 #[iv p0, iv p1, iv p2, .val (.double d1), .second, .val (.double d2), .second, .val (.double d3), .second, .val (.double d4), .second, .val (.double d5), .second, .val (.double d6), .second, .unset, .unset, .unset, .unset, .unset, .unset, .unset, .unset, .unset, .unset, .unset] []))) (fun t k => XS.dstore X6.here hx rfl (hb hby at_39) rfl (l' := #[iv p0, iv p1, iv p2, .val (.double d1), .second, .val (.double d2), .second, .val (.double d3), .second, .val (.double d4), .second, .val (.double d5), .second, .val (.double d6), .second, .unset, .unset, .unset, .unset, .unset, .unset, .unset, .unset, .unset, .unset, .unset]) rfl k) ?_
  refine own_go (B := (T6.setTop (mkF m 42 #[iv p0, iv p1, iv p2, .val (.double d1), .second, .val (.double d2), .second, .val (.double d3), .second, .val (.double d4), .second, .val (.double d5), .second, .val (.double d6), .second, .unset, .unset, .unset, .unset, .unset, .unset, .unset, .unset, .unset, .unset, .unset] [(.int p2)]))) (fun t k => XS.iloadN X6.here hx rfl (hb hby at_41) rfl k) ?_
  refine own_go (B := (T6.setTop (mkF m 43 #[iv p0, iv p1, iv p2, .val (.double d1), .second, .val (.double d2), .second, .val (.double d3), .second, .val (.double d4), .second, .val (.double d5), .second, .val (.double d6), .second, .unset, .unset, .unset, .unset, .unset, .unset, .unset, .unset, .unset, .unset, .unset] [(.int (3 : Int32)), (.int p2)]))) (fun t k => own_iconst (v := (3 : Int32)) X6.here hx rfl (hb hby at_42) (by decide) k) ?_
  refine own_go (B := (T6.setTop (mkF m 44 #[iv p0, iv p1, iv p2, .val (.double d1), .second, .val (.double d2), .second, .val (.double d3), .second, .val (.double d4), .second, .val (.double d5), .second, .val (.double d6), .second, .unset, .unset, .unset, .unset, .unset, .unset, .unset, .unset, .unset, .unset, .unset] [(.int (p2 &&& (3 : Int32)))]))) (fun t k => XS.iand (x := p2) (y := (3 : Int32)) X6.here hx rfl (hb hby at_43) rfl k) ?_
  obtain ⟨z44, hz44⟩ : ∃ z : Int32, z = (p2 &&& (3 : Int32)) := ⟨_, rfl⟩
  rw [← hz44]
  refine own_go (B := (T6.setTop (mkF m 46 #[iv p0, iv p1, iv p2, .val (.double d1), .second, .val (.double d2), .second, .val (.double d3), .second, .val (.double d4), .second, .val (.double d5), .second, .val (.double d6), .second, iv z44, .unset, .unset, .unset, .unset, .unset, .unset, .unset, .unset, .unset, .unset] []))) (fun t k => XS.istore X6.here hx rfl (hb hby at_44) rfl (l' := #[iv p0, iv p1, iv p2, .val (.double d1), .second, .val (.double d2), .second, .val (.double d3), .second, .val (.double d4), .second, .val (.double d5), .second, .val (.double d6), .second, iv z44, .unset, .unset, .unset, .unset, .unset, .unset, .unset, .unset, .unset, .unset]) rfl k) ?_
  refine own_go (B := (T6.setTop (mkF m 47 #[iv p0, iv p1, iv p2, .val (.double d1), .second, .val (.double d2), .second, .val (.double d3), .second, .val (.double d4), .second, .val (.double d5), .second, .val (.double d6), .second, iv z44, .unset, .unset, .unset, .unset, .unset, .unset, .unset, .unset, .unset, .unset] [(.int (3 : Int32))]))) (fun t k => own_iconst (v := (3 : Int32)) X6.here hx rfl (hb hby at_46) (by decide) k) ?_
  obtain ⟨T7, h7, c7, X7, e7, E7, A7, st7⟩ := newP X6 hx hZ (aty := .double) w_4 e6 (g := (mkF m 47 #[iv p0, iv p1, iv p2, .val (.double d1), .second, .val (.double d2), .second, .val (.double d3), .second, .val (.double d4), .second, .val (.double d5), .second, .val (.double d6), .second, iv z44, .unset, .unset, .unset, .unset, .unset, .unset, .unset, .unset, .unset, .unset] [(.int (3 : Int32))])) rfl (hb hby at_47) rfl (by decide) (cap := 3) (by decide) (by decide) (own_b rfl) (own_b rfl)
  obtain ⟨a7, ga7⟩ : ∃ z, z = h0.size := ⟨_, rfl⟩
  rw [← ga7] at A7 st7
  refine own_go (B := (T7.setTop (mkF m 49 #[iv p0, iv p1, iv p2, .val (.double d1), .second, .val (.double d2), .second, .val (.double d3), .second, .val (.double d4), .second, .val (.double d5), .second, .val (.double d6), .second, iv z44, .unset, .unset, .unset, .unset, .unset, .unset, .unset, .unset, .unset, .unset] [(.ref a7)]))) st7 ?_
  have Z8 : n0 ≤ h7.size := Nat.le_trans Z0 E7.1
  have K9 := Keep.ext K0 E7
  have gn7 : n0 ≤ a7 := Nat.le_trans Z0 (Nat.le_of_eq ga7.symm)
  have V7 : own_Ar Z h7 a7 .double [(.double (0 : UInt64)), (.double (0 : UInt64)), (.double (0 : UInt64))] := own_Ar_new A7 (N := 3) (by decide) rfl
  refine own_go (B := (T7.setTop (mkF m 50 #[iv p0, iv p1, iv p2, .val (.double d1), .second, .val (.double d2), .second, .val (.double d3), .second, .val (.double d4), .second, .val (.double d5), .second, .val (.double d6), .second, iv z44, .unset, .unset, .unset, .unset, .unset, .unset, .unset, .unset, .unset, .unset] [(.ref a7), (.ref a7)]))) (fun t k => XS.dup X7.here hx rfl (hb hby at_49) rfl rfl k) ?_
  refine own_go (B := (T7.setTop (mkF m 51 #[iv p0, iv p1, iv p2, .val (.double d1), .second, .val (.double d2), .second, .val (.double d3), .second, .val (.double d4), .second, .val (.double d5), .second, .val (.double d6), .second, iv z44, .unset, .unset, .unset, .unset, .unset, .unset, .unset, .unset, .unset, .unset] [(.int (0 : Int32)), (.ref a7), (.ref a7)]))) (fun t k => own_iconst (v := (0 : Int32)) X7.here hx rfl (hb hby at_50) (by decide) k) ?_
  refine own_go (B := (T7.setTop (mkF m 52 #[iv p0, iv p1, iv p2, .val (.double d1), .second, .val (.double d2), .second, .val (.double d3), .second, .val (.double d4), .second, .val (.double d5), .second, .val (.double d6), .second, iv z44, .unset, .unset, .unset, .unset, .unset, .unset, .unset, .unset, .unset, .unset] [(.double d1), (.int (0 : Int32)), (.ref a7), (.ref a7)]))) (fun t k => XS.dloadN X7.here hx rfl (hb hby at_51) rfl k) ?_
  obtain ⟨T10, h10, X10, e10, W10, V10, st10⟩ := own_stD X7 hx hZ e7 V7 (i := 0) (by decide) (by decide) (Nat.lt_of_lt_of_eq (by decide : 0 < 3) rfl) (L' := [(.double d1), (.double (0 : UInt64)), (.double (0 : UInt64))]) rfl (g := (mkF m 52 #[iv p0, iv p1, iv p2, .val (.double d1), .second, .val (.double d2), .second, .val (.double d3), .second, .val (.double d4), .second, .val (.double d5), .second, .val (.double d6), .second, iv z44, .unset, .unset, .unset, .unset, .unset, .unset, .unset, .unset, .unset, .unset] [(.double d1), (.int (0 : Int32)), (.ref a7), (.ref a7)])) rfl rfl (hb hby at_52)
  refine own_go (B := (T10.setTop (mkF m 53 #[iv p0, iv p1, iv p2, .val (.double d1), .second, .val (.double d2), .second, .val (.double d3), .second, .val (.double d4), .second, .val (.double d5), .second, .val (.double d6), .second, iv z44, .unset, .unset, .unset, .unset, .unset, .unset, .unset, .unset, .unset, .unset] [(.ref a7)]))) st10 ?_
  obtain ⟨L10, X10, N10⟩ := own_abs X10 (Fr.snoc X10 N6 gn7)
  have F11 : n0 ≤ h10.size := by rw [W10.size]; exact Z8
  have F12 := Keep.wr K9 W10 (Or.inr (Nat.le_trans K0.1 (Nat.le_of_eq ga7.symm)))
  refine own_go (B := (T10.setTop (mkF m 54 #[iv p0, iv p1, iv p2, .val (.double d1), .second, .val (.double d2), .second, .val (.double d3), .second, .val (.double d4), .second, .val (.double d5), .second, .val (.double d6), .second, iv z44, .unset, .unset, .unset, .unset, .unset, .unset, .unset, .unset, .unset, .unset] [(.ref a7), (.ref a7)]))) (fun t k => XS.dup X10.here hx rfl (hb hby at_53) rfl rfl k) ?_
  refine own_go (B := (T10.setTop (mkF m 55 #[iv p0, iv p1, iv p2, .val (.double d1), .second, .val (.double d2), .second, .val (.double d3), .second, .val (.double d4), .second, .val (.double d5), .second, .val (.double d6), .second, iv z44, .unset, .unset, .unset, .unset, .unset, .unset, .unset, .unset, .unset, .unset] [(.int (1 : Int32)), (.ref a7), (.ref a7)]))) (fun t k => own_iconst (v := (1 : Int32)) X10.here hx rfl (hb hby at_54) (by decide) k) ?_
  refine own_go (B := (T10.setTop (mkF m 57 #[iv p0, iv p1, iv p2, .val (.double d1), .second, .val (.double d2), .second, .val (.double d3), .second, .val (.double d4), .second, .val (.double d5), .second, .val (.double d6), .second, iv z44, .unset, .unset, .unset, .unset, .unset, .unset, .unset, .unset, .unset, .unset] [(.double d2), (.int (1 : Int32)), (.ref a7), (.ref a7)]))) (fun t k => XS.dload X10.here hx rfl (hb hby at_55) rfl k) ?_
  obtain ⟨T14, h14, X14, e14, W14, V14, st14⟩ := own_stD X10 hx hZ e10 V10 (i := 1) (by decide) (by decide) (Nat.lt_of_lt_of_eq (by decide : 1 < 3) rfl) (L' := [(.double d1), (.double d2), (.double (0 : UInt64))]) rfl (g := (mkF m 57 #[iv p0, iv p1, iv p2, .val (.double d1), .second, .val (.double d2), .second, .val (.double d3), .second, .val (.double d4), .second, .val (.double d5), .second, .val (.double d6), .second, iv z44, .unset, .unset, .unset, .unset, .unset, .unset, .unset, .unset, .unset, .unset] [(.double d2), (.int (1 : Int32)), (.ref a7), (.ref a7)])) rfl rfl (hb hby at_57)
  refine own_go (B := (T14.setTop (mkF m 58 #[iv p0, iv p1, iv p2, .val (.double d1), .second, .val (.double d2), .second, .val (.double d3), .second, .val (.double d4), .second, .val (.double d5), .second, .val (.double d6), .second, iv z44, .unset, .unset, .unset, .unset, .unset, .unset, .unset, .unset, .unset, .unset] [(.ref a7)]))) st14 ?_
  obtain ⟨L14, X14, N14⟩ := own_abs X14 (Fr.snoc X14 N10 gn7)
  have F15 : n0 ≤ h14.size := by rw [W14.size]; exact F11
  have F16 := Keep.wr F12 W14 (Or.inr (Nat.le_trans K0.1 (Nat.le_of_eq ga7.symm)))
  refine own_go (B := (T14.setTop (mkF m 59 #[iv p0, iv p1, iv p2, .val (.double d1), .second, .val (.double d2), .second, .val (.double d3), .second, .val (.double d4), .second, .val (.double d5), .second, .val (.double d6), .second, iv z44, .unset, .unset, .unset, .unset, .unset, .unset, .unset, .unset, .unset, .unset] [(.ref a7), (.ref a7)]))) (fun t k => XS.dup X14.here hx rfl (hb hby at_58) rfl rfl k) ?_
  refine own_go (B := (T14.setTop (mkF m 60 #[iv p0, iv p1, iv p2, .val (.double d1), .second, .val (.double d2), .second, .val (.double d3), .second, .val (.double d4), .second, .val (.double d5), .second, .val (.double d6), .second, iv z44, .unset, .unset, .unset, .unset, .unset, .unset, .unset, .unset, .unset, .unset] [(.int (2 : Int32)), (.ref a7), (.ref a7)]))) (fun t k => own_iconst (v := (2 : Int32)) X14.here hx rfl (hb hby at_59) (by decide) k) ?_
  refine own_go (B := (T14.setTop (mkF m 62 #[iv p0, iv p1, iv p2, .val (.double d1), .second, .val (.double d2), .second, .val (.double d3), .second, .val (.double d4), .second, .val (.double d5), .second, .val (.double d6), .second, iv z44, .unset, .unset, .unset, .unset, .unset, .unset, .unset, .unset, .unset, .unset] [(.double d3), (.int (2 : Int32)), (.ref a7), (.ref a7)]))) (fun t k => XS.dload X14.here hx rfl (hb hby at_60) rfl k) ?_
  obtain ⟨T18, h18, X18, e18, W18, V18, st18⟩ := own_stD X14 hx hZ e14 V14 (i := 2) (by decide) (by decide) (Nat.lt_of_lt_of_eq (by decide : 2 < 3) rfl) (L' := [(.double d1), (.double d2), (.double d3)]) rfl (g := (mkF m 62 #[iv p0, iv p1, iv p2, .val (.double d1), .second, .val (.double d2), .second, .val (.double d3), .second, .val (.double d4), .second, .val (.double d5), .second, .val (.double d6), .second, iv z44, .unset, .unset, .unset, .unset, .unset, .unset, .unset, .unset, .unset, .unset] [(.double d3), (.int (2 : Int32)), (.ref a7), (.ref a7)])) rfl rfl (hb hby at_62)
  refine own_go (B := (T18.setTop (mkF m 63 #[iv p0, iv p1, iv p2, .val (.double d1), .second, .val (.double d2), .second, .val (.double d3), .second, .val (.double d4), .second, .val (.double d5), .second, .val (.double d6), .second, iv z44, .unset, .unset, .unset, .unset, .unset, .unset, .unset, .unset, .unset, .unset] [(.ref a7)]))) st18 ?_
  obtain ⟨L18, X18, N18⟩ := own_abs X18 (Fr.snoc X18 N14 gn7)
  have F19 : n0 ≤ h18.size := by rw [W18.size]; exact F15
  have F20 := Keep.wr F16 W18 (Or.inr (Nat.le_trans K0.1 (Nat.le_of_eq ga7.symm)))
  refine own_go (B := (T18.setTop (mkF m 65 #[iv p0, iv p1, iv p2, .val (.double d1), .second, .val (.double d2), .second, .val (.double d3), .second, .val (.double d4), .second, .val (.double d5), .second, .val (.double d6), .second, iv z44, rv a7, .unset, .unset, .unset, .unset, .unset, .unset, .unset, .unset, .unset] []))) (fun t k => XS.astore X18.here hx rfl (hb hby at_63) rfl rfl (l' := #[iv p0, iv p1, iv p2, .val (.double d1), .second, .val (.double d2), .second, .val (.double d3), .second, .val (.double d4), .second, .val (.double d5), .second, .val (.double d6), .second, iv z44, rv a7, .unset, .unset, .unset, .unset, .unset, .unset, .unset, .unset, .unset]) rfl k) ?_
  refine own_go (B := (T18.setTop (mkF m 66 #[iv p0, iv p1, iv p2, .val (.double d1), .second, .val (.double d2), .second, .val (.double d3), .second, .val (.double d4), .second, .val (.double d5), .second, .val (.double d6), .second, iv z44, rv a7, .unset, .unset, .unset, .unset, .unset, .unset, .unset, .unset, .unset] [(.int (3 : Int32))]))) (fun t k => own_iconst (v := (3 : Int32)) X18.here hx rfl (hb hby at_65) (by decide) k) ?_
  obtain ⟨T22, h22, c22, X22, e22, E22, A22, st22⟩ := newP X18 hx hZ (aty := .double) w_4 e18 (g := (mkF m 66 #[iv p0, iv p1, iv p2, .val (.double d1), .second, .val (.double d2), .second, .val (.double d3), .second, .val (.double d4), .second, .val (.double d5), .second, .val (.double d6), .second, iv z44, rv a7, .unset, .unset, .unset, .unset, .unset, .unset, .unset, .unset, .unset] [(.int (3 : Int32))])) rfl (hb hby at_66) rfl (by decide) (cap := 3) (by decide) (by decide) (own_b rfl) (own_b rfl)
  obtain ⟨a22, ga22⟩ : ∃ z, z = h18.size := ⟨_, rfl⟩
  rw [← ga22] at A22 st22
  refine own_go (B := (T22.setTop (mkF m 68 #[iv p0, iv p1, iv p2, .val (.double d1), .second, .val (.double d2), .second, .val (.double d3), .second, .val (.double d4), .second, .val (.double d5), .second, .val (.double d6), .second, iv z44, rv a7, .unset, .unset, .unset, .unset, .unset, .unset, .unset, .unset, .unset] [(.ref a22)]))) st22 ?_
  have Z23 : n0 ≤ h22.size := Nat.le_trans F19 E22.1
  have K24 := Keep.ext F20 E22
  have V25 := own_Ar_ext V18 E22
  have gn22 : n0 ≤ a22 := Nat.le_trans F19 (Nat.le_of_eq ga22.symm)
  have ne22_a7 : a22 ≠ a7 := fun q => absurd (own_Ar_lt V18) (by rw [← q, ga22]; exact Nat.lt_irrefl _)
  have V22 : own_Ar Z h22 a22 .double [(.double (0 : UInt64)), (.double (0 : UInt64)), (.double (0 : UInt64))] := own_Ar_new A22 (N := 3) (by decide) rfl
  refine own_go (B := (T22.setTop (mkF m 69 #[iv p0, iv p1, iv p2, .val (.double d1), .second, .val (.double d2), .second, .val (.double d3), .second, .val (.double d4), .second, .val (.double d5), .second, .val (.double d6), .second, iv z44, rv a7, .unset, .unset, .unset, .unset, .unset, .unset, .unset, .unset, .unset] [(.ref a22), (.ref a22)]))) (fun t k => XS.dup X22.here hx rfl (hb hby at_68) rfl rfl k) ?_
  refine own_go (B := (T22.setTop (mkF m 70 #[iv p0, iv p1, iv p2, .val (.double d1), .second, .val (.double d2), .second, .val (.double d3), .second, .val (.double d4), .second, .val (.double d5), .second, .val (.double d6), .second, iv z44, rv a7, .unset, .unset, .unset, .unset, .unset, .unset, .unset, .unset, .unset] [(.int (0 : Int32)), (.ref a22), (.ref a22)]))) (fun t k => own_iconst (v := (0 : Int32)) X22.here hx rfl (hb hby at_69) (by decide) k) ?_
  refine own_go (B := (T22.setTop (mkF m 72 #[iv p0, iv p1, iv p2, .val (.double d1), .second, .val (.double d2), .second, .val (.double d3), .second, .val (.double d4), .second, .val (.double d5), .second, .val (.double d6), .second, iv z44, rv a7, .unset, .unset, .unset, .unset, .unset, .unset, .unset, .unset, .unset] [(.double d4), (.int (0 : Int32)), (.ref a22), (.ref a22)]))) (fun t k => XS.dload X22.here hx rfl (hb hby at_70) rfl k) ?_
  obtain ⟨T26, h26, X26, e26, W26, V26, st26⟩ := own_stD X22 hx hZ e22 V22 (i := 0) (by decide) (by decide) (Nat.lt_of_lt_of_eq (by decide : 0 < 3) rfl) (L' := [(.double d4), (.double (0 : UInt64)), (.double (0 : UInt64))]) rfl (g := (mkF m 72 #[iv p0, iv p1, iv p2, .val (.double d1), .second, .val (.double d2), .second, .val (.double d3), .second, .val (.double d4), .second, .val (.double d5), .second, .val (.double d6), .second, iv z44, rv a7, .unset, .unset, .unset, .unset, .unset, .unset, .unset, .unset, .unset] [(.double d4), (.int (0 : Int32)), (.ref a22), (.ref a22)])) rfl rfl (hb hby at_72)
  refine own_go (B := (T26.setTop (mkF m 73 #[iv p0, iv p1, iv p2, .val (.double d1), .second, .val (.double d2), .second, .val (.double d3), .second, .val (.double d4), .second, .val (.double d5), .second, .val (.double d6), .second, iv z44, rv a7, .unset, .unset, .unset, .unset, .unset, .unset, .unset, .unset, .unset] [(.ref a22)]))) st26 ?_
  obtain ⟨L26, X26, N26⟩ := own_abs X26 (Fr.snoc X26 N18 gn22)
  have F27 : n0 ≤ h26.size := by rw [W26.size]; exact Z23
  have F28 := Keep.wr K24 W26 (Or.inr (Nat.le_trans F20.1 (Nat.le_of_eq ga22.symm)))
  have F29 := own_Ar_other V25 W26 (Ne.symm ne22_a7)
  refine own_go (B := (T26.setTop (mkF m 74 #[iv p0, iv p1, iv p2, .val (.double d1), .second, .val (.double d2), .second, .val (.double d3), .second, .val (.double d4), .second, .val (.double d5), .second, .val (.double d6), .second, iv z44, rv a7, .unset, .unset, .unset, .unset, .unset, .unset, .unset, .unset, .unset] [(.ref a22), (.ref a22)]))) (fun t k => XS.dup X26.here hx rfl (hb hby at_73) rfl rfl k) ?_
  refine own_go (B := (T26.setTop (mkF m 75 #[iv p0, iv p1, iv p2, .val (.double d1), .second, .val (.double d2), .second, .val (.double d3), .second, .val (.double d4), .second, .val (.double d5), .second, .val (.double d6), .second, iv z44, rv a7, .unset, .unset, .unset, .unset, .unset, .unset, .unset, .unset, .unset] [(.int (1 : Int32)), (.ref a22), (.ref a22)]))) (fun t k => own_iconst (v := (1 : Int32)) X26.here hx rfl (hb hby at_74) (by decide) k) ?_
  refine own_go (B := (T26.setTop (mkF m 77 #[iv p0, iv p1, iv p2, .val (.double d1), .second, .val (.double d2), .second, .val (.double d3), .second, .val (.double d4), .second, .val (.double d5), .second, .val (.double d6), .second, iv z44, rv a7, .unset, .unset, .unset, .unset, .unset, .unset, .unset, .unset, .unset] [(.double d5), (.int (1 : Int32)), (.ref a22), (.ref a22)]))) (fun t k => XS.dload X26.here hx rfl (hb hby at_75) rfl k) ?_
  obtain ⟨T31, h31, X31, e31, W31, V31, st31⟩ := own_stD X26 hx hZ e26 V26 (i := 1) (by decide) (by decide) (Nat.lt_of_lt_of_eq (by decide : 1 < 3) rfl) (L' := [(.double d4), (.double d5), (.double (0 : UInt64))]) rfl (g := (mkF m 77 #[iv p0, iv p1, iv p2, .val (.double d1), .second, .val (.double d2), .second, .val (.double d3), .second, .val (.double d4), .second, .val (.double d5), .second, .val (.double d6), .second, iv z44, rv a7, .unset, .unset, .unset, .unset, .unset, .unset, .unset, .unset, .unset] [(.double d5), (.int (1 : Int32)), (.ref a22), (.ref a22)])) rfl rfl (hb hby at_77)
  refine own_go (B := (T31.setTop (mkF m 78 #[iv p0, iv p1, iv p2, .val (.double d1), .second, .val (.double d2), .second, .val (.double d3), .second, .val (.double d4), .second, .val (.double d5), .second, .val (.double d6), .second, iv z44, rv a7, .unset, .unset, .unset, .unset, .unset, .unset, .unset, .unset, .unset] [(.ref a22)]))) st31 ?_
  obtain ⟨L31, X31, N31⟩ := own_abs X31 (Fr.snoc X31 N26 gn22)
  have F32 : n0 ≤ h31.size := by rw [W31.size]; exact F27
  have F33 := Keep.wr F28 W31 (Or.inr (Nat.le_trans F20.1 (Nat.le_of_eq ga22.symm)))
  have F34 := own_Ar_other F29 W31 (Ne.symm ne22_a7)
  refine own_go (B := (T31.setTop (mkF m 79 #[iv p0, iv p1, iv p2, .val (.double d1), .second, .val (.double d2), .second, .val (.double d3), .second, .val (.double d4), .second, .val (.double d5), .second, .val (.double d6), .second, iv z44, rv a7, .unset, .unset, .unset, .unset, .unset, .unset, .unset, .unset, .unset] [(.ref a22), (.ref a22)]))) (fun t k => XS.dup X31.here hx rfl (hb hby at_78) rfl rfl k) ?_
  refine own_go (B := (T31.setTop (mkF m 80 #[iv p0, iv p1, iv p2, .val (.double d1), .second, .val (.double d2), .second, .val (.double d3), .second, .val (.double d4), .second, .val (.double d5), .second, .val (.double d6), .second, iv z44, rv a7, .unset, .unset, .unset, .unset, .unset, .unset, .unset, .unset, .unset] [(.int (2 : Int32)), (.ref a22), (.ref a22)]))) (fun t k => own_iconst (v := (2 : Int32)) X31.here hx rfl (hb hby at_79) (by decide) k) ?_
  refine own_go (B := (T31.setTop (mkF m 82 #[iv p0, iv p1, iv p2, .val (.double d1), .second, .val (.double d2), .second, .val (.double d3), .second, .val (.double d4), .second, .val (.double d5), .second, .val (.double d6), .second, iv z44, rv a7, .unset, .unset, .unset, .unset, .unset, .unset, .unset, .unset, .unset] [(.double d6), (.int (2 : Int32)), (.ref a22), (.ref a22)]))) (fun t k => XS.dload X31.here hx rfl (hb hby at_80) rfl k) ?_
  obtain ⟨T36, h36, X36, e36, W36, V36, st36⟩ := own_stD X31 hx hZ e31 V31 (i := 2) (by decide) (by decide) (Nat.lt_of_lt_of_eq (by decide : 2 < 3) rfl) (L' := [(.double d4), (.double d5), (.double d6)]) rfl (g := (mkF m 82 #[iv p0, iv p1, iv p2, .val (.double d1), .second, .val (.double d2), .second, .val (.double d3), .second, .val (.double d4), .second, .val (.double d5), .second, .val (.double d6), .second, iv z44, rv a7, .unset, .unset, .unset, .unset, .unset, .unset, .unset, .unset, .unset] [(.double d6), (.int (2 : Int32)), (.ref a22), (.ref a22)])) rfl rfl (hb hby at_82)
  refine own_go (B := (T36.setTop (mkF m 83 #[iv p0, iv p1, iv p2, .val (.double d1), .second, .val (.double d2), .second, .val (.double d3), .second, .val (.double d4), .second, .val (.double d5), .second, .val (.double d6), .second, iv z44, rv a7, .unset, .unset, .unset, .unset, .unset, .unset, .unset, .unset, .unset] [(.ref a22)]))) st36 ?_
  obtain ⟨L36, X36, N36⟩ := own_abs X36 (Fr.snoc X36 N31 gn22)
  have F37 : n0 ≤ h36.size := by rw [W36.size]; exact F32
  have F38 := Keep.wr F33 W36 (Or.inr (Nat.le_trans F20.1 (Nat.le_of_eq ga22.symm)))
  have F39 := own_Ar_other F34 W36 (Ne.symm ne22_a7)
  refine own_go (B := (T36.setTop (mkF m 85 #[iv p0, iv p1, iv p2, .val (.double d1), .second, .val (.double d2), .second, .val (.double d3), .second, .val (.double d4), .second, .val (.double d5), .second, .val (.double d6), .second, iv z44, rv a7, rv a22, .unset, .unset, .unset, .unset, .unset, .unset, .unset, .unset] []))) (fun t k => XS.astore X36.here hx rfl (hb hby at_83) rfl rfl (l' := #[iv p0, iv p1, iv p2, .val (.double d1), .second, .val (.double d2), .second, .val (.double d3), .second, .val (.double d4), .second, .val (.double d5), .second, .val (.double d6), .second, iv z44, rv a7, rv a22, .unset, .unset, .unset, .unset, .unset, .unset, .unset, .unset]) rfl k) ?_
  refine own_go (B := (T36.setTop (mkF m 87 #[iv p0, iv p1, iv p2, .val (.double d1), .second, .val (.double d2), .second, .val (.double d3), .second, .val (.double d4), .second, .val (.double d5), .second, .val (.double d6), .second, iv z44, rv a7, rv a22, .unset, .unset, .unset, .unset, .unset, .unset, .unset, .unset] [(.ref a7)]))) (fun t k => XS.aload X36.here hx rfl (hb hby at_85) rfl rfl k) ?_
  refine own_go (B := (T36.setTop (mkF m 89 #[iv p0, iv p1, iv p2, .val (.double d1), .second, .val (.double d2), .second, .val (.double d3), .second, .val (.double d4), .second, .val (.double d5), .second, .val (.double d6), .second, iv z44, rv a7, rv a22, .unset, .unset, .unset, .unset, .unset, .unset, .unset, .unset] [(.ref a22), (.ref a7)]))) (fun t k => XS.aload X36.here hx rfl (hb hby at_87) rfl rfl k) ?_
  refine own_go (B := (T36.setTop (mkF m 91 #[iv p0, iv p1, iv p2, .val (.double d1), .second, .val (.double d2), .second, .val (.double d3), .second, .val (.double d4), .second, .val (.double d5), .second, .val (.double d6), .second, iv z44, rv a7, rv a22, .unset, .unset, .unset, .unset, .unset, .unset, .unset, .unset] [(.int z44), (.ref a22), (.ref a7)]))) (fun t k => XS.iload X36.here hx rfl (hb hby at_89) rfl k) ?_
  obtain ⟨_, _, ⟨T41, L41, k41, n41⟩, -, X41, ⟨Lc41, hQ41, l41, y41, z41⟩, st41⟩ := Jvm.LawKit.callS X36 hx (y := own_y2) hown (mvT hZ w_5) (mvT hZ w_6) (mvT hZ w_7) (mvT hZ w_8) (by decide) (backOf (W := 0) (own_dm l Z a0 hw [] a7 a22 z44 d1 d2 d3 d4 d5 d6 h36 n0 F39 V36 (own_c4 hz44)) hZ w_8 w_7 (by decide) (by decide)) (g := (mkF m 91 #[iv p0, iv p1, iv p2, .val (.double d1), .second, .val (.double d2), .second, .val (.double d3), .second, .val (.double d4), .second, .val (.double d5), .second, .val (.double d6), .second, iv z44, rv a7, rv a22, .unset, .unset, .unset, .unset, .unset, .unset, .unset, .unset] [(.int z44), (.ref a22), (.ref a7)])) rfl (by rw [hml]; rfl) (argsL := [(.ref a7), (.ref a22), (.int z44)]) (rest := []) (lenOf own_pd2 rfl) rfl (by show 2 * 0 + _ ≤ _; exact own_b rfl) (hb hby at_91) (fun _ _ => ⟨rfl, e36, (own_b rfl : 2 + 0 ≤ _), (own_b rfl : 6 + 0 ≤ _)⟩)
  dsimp only [Pt.U, Pt.locs, Pt.cells, Pt.slots] at X41 l41 y41 z41 st41 hQ41
  obtain ⟨rfl, Nq41, eq41⟩ := hQ41
  obtain ⟨L41, X41, N41⟩ := own_absC (K := 2) (K' := 6) X41 l41 y41 z41 N36 Nq41
  have e41 : T41.heap = h36 := eq41
  refine own_go (B := (T41.setTop (mkF m 94 #[iv p0, iv p1, iv p2, .val (.double d1), .second, .val (.double d2), .second, .val (.double d3), .second, .val (.double d4), .second, .val (.double d5), .second, .val (.double d6), .second, iv z44, rv a7, rv a22, .unset, .unset, .unset, .unset, .unset, .unset, .unset, .unset] [(.int (own_dom z44 (own_c d1 d4) (own_c d2 d5) (own_c d3 d6)))]))) st41 ?_
  obtain ⟨z94, hz94⟩ : ∃ z : Int32, z = (own_dom z44 (own_c d1 d4) (own_c d2 d5) (own_c d3 d6)) := ⟨_, rfl⟩
  rw [← hz94]
  refine own_go (B := (T41.setTop (mkF m 96 #[iv p0, iv p1, iv p2, .val (.double d1), .second, .val (.double d2), .second, .val (.double d3), .second, .val (.double d4), .second, .val (.double d5), .second, .val (.double d6), .second, iv z44, rv a7, rv a22, iv z94, .unset, .unset, .unset, .unset, .unset, .unset, .unset] []))) (fun t k => XS.istore X41.here hx rfl (hb hby at_94) rfl (l' := #[iv p0, iv p1, iv p2, .val (.double d1), .second, .val (.double d2), .second, .val (.double d3), .second, .val (.double d4), .second, .val (.double d5), .second, .val (.double d6), .second, iv z44, rv a7, rv a22, iv z94, .unset, .unset, .unset, .unset, .unset, .unset, .unset]) rfl k) ?_
  have J130 : ∀ (b0 : Int32) (hb0 : b0 = own_okk z44 (0 : Int32) (own_c d1 d4)), own_G p.tables e below (fun o U' => ∃ v L, o = .returned v ∧ (own_law_Q Z p0 p1 p2 h0 n0) v U'.heap L ∧ FrameEnd s o U' L 16 128) (T41.setTop (mkF m 130 #[iv p0, iv p1, iv p2, .val (.double d1), .second, .val (.double d2), .second, .val (.double d3), .second, .val (.double d4), .second, .val (.double d5), .second, .val (.double d6), .second, iv z44, rv a7, rv a22, iv z94, iv b0, .unset, .unset, .unset, .unset, .unset, .unset] [])) := by
    intro b0 hb0
    refine own_go (B := (T41.setTop (mkF m 132 #[iv p0, iv p1, iv p2, .val (.double d1), .second, .val (.double d2), .second, .val (.double d3), .second, .val (.double d4), .second, .val (.double d5), .second, .val (.double d6), .second, iv z44, rv a7, rv a22, iv z94, iv b0, .unset, .unset, .unset, .unset, .unset, .unset] [(.int z44)]))) (fun t k => XS.iload X41.here hx rfl (hb hby at_130) rfl k) ?_
    have J167 : ∀ (b1 : Int32) (hb1 : b1 = own_okk z44 (1 : Int32) (own_c d2 d5)), own_G p.tables e below (fun o U' => ∃ v L, o = .returned v ∧ (own_law_Q Z p0 p1 p2 h0 n0) v U'.heap L ∧ FrameEnd s o U' L 16 128) (T41.setTop (mkF m 167 #[iv p0, iv p1, iv p2, .val (.double d1), .second, .val (.double d2), .second, .val (.double d3), .second, .val (.double d4), .second, .val (.double d5), .second, .val (.double d6), .second, iv z44, rv a7, rv a22, iv z94, iv b0, iv b1, .unset, .unset, .unset, .unset, .unset] [])) := by
      intro b1 hb1
      refine own_go (B := (T41.setTop (mkF m 169 #[iv p0, iv p1, iv p2, .val (.double d1), .second, .val (.double d2), .second, .val (.double d3), .second, .val (.double d4), .second, .val (.double d5), .second, .val (.double d6), .second, iv z44, rv a7, rv a22, iv z94, iv b0, iv b1, .unset, .unset, .unset, .unset, .unset] [(.int z44)]))) (fun t k => XS.iload X41.here hx rfl (hb hby at_167) rfl k) ?_
      have J204 : ∀ (b2 : Int32) (hb2 : b2 = own_okk z44 (2 : Int32) (own_c d3 d6)), own_G p.tables e below (fun o U' => ∃ v L, o = .returned v ∧ (own_law_Q Z p0 p1 p2 h0 n0) v U'.heap L ∧ FrameEnd s o U' L 16 128) (T41.setTop (mkF m 204 #[iv p0, iv p1, iv p2, .val (.double d1), .second, .val (.double d2), .second, .val (.double d3), .second, .val (.double d4), .second, .val (.double d5), .second, .val (.double d6), .second, iv z44, rv a7, rv a22, iv z94, iv b0, iv b1, iv b2, .unset, .unset, .unset, .unset] [])) := by
        intro b2 hb2
        refine own_go (B := (T41.setTop (mkF m 206 #[iv p0, iv p1, iv p2, .val (.double d1), .second, .val (.double d2), .second, .val (.double d3), .second, .val (.double d4), .second, .val (.double d5), .second, .val (.double d6), .second, iv z44, rv a7, rv a22, iv z94, iv b0, iv b1, iv b2, .unset, .unset, .unset, .unset] [(.int z44)]))) (fun t k => XS.iload X41.here hx rfl (hb hby at_204) rfl k) ?_
        have J223 : ∀ (t0 : Int32) (ht0 : t0 = own_ss z44 (0 : Int32) (own_c d1 d4)), own_G p.tables e below (fun o U' => ∃ v L, o = .returned v ∧ (own_law_Q Z p0 p1 p2 h0 n0) v U'.heap L ∧ FrameEnd s o U' L 16 128) (T41.setTop (mkF m 223 #[iv p0, iv p1, iv p2, .val (.double d1), .second, .val (.double d2), .second, .val (.double d3), .second, .val (.double d4), .second, .val (.double d5), .second, .val (.double d6), .second, iv z44, rv a7, rv a22, iv z94, iv b0, iv b1, iv b2, iv t0, .unset, .unset, .unset] [])) := by
          intro t0 ht0
          refine own_go (B := (T41.setTop (mkF m 225 #[iv p0, iv p1, iv p2, .val (.double d1), .second, .val (.double d2), .second, .val (.double d3), .second, .val (.double d4), .second, .val (.double d5), .second, .val (.double d6), .second, iv z44, rv a7, rv a22, iv z94, iv b0, iv b1, iv b2, iv t0, .unset, .unset, .unset] [(.int z44)]))) (fun t k => XS.iload X41.here hx rfl (hb hby at_223) rfl k) ?_
          have J244 : ∀ (t1 : Int32) (ht1 : t1 = own_ss z44 (1 : Int32) (own_c d2 d5)), own_G p.tables e below (fun o U' => ∃ v L, o = .returned v ∧ (own_law_Q Z p0 p1 p2 h0 n0) v U'.heap L ∧ FrameEnd s o U' L 16 128) (T41.setTop (mkF m 244 #[iv p0, iv p1, iv p2, .val (.double d1), .second, .val (.double d2), .second, .val (.double d3), .second, .val (.double d4), .second, .val (.double d5), .second, .val (.double d6), .second, iv z44, rv a7, rv a22, iv z94, iv b0, iv b1, iv b2, iv t0, iv t1, .unset, .unset] [])) := by
            intro t1 ht1
            refine own_go (B := (T41.setTop (mkF m 246 #[iv p0, iv p1, iv p2, .val (.double d1), .second, .val (.double d2), .second, .val (.double d3), .second, .val (.double d4), .second, .val (.double d5), .second, .val (.double d6), .second, iv z44, rv a7, rv a22, iv z94, iv b0, iv b1, iv b2, iv t0, iv t1, .unset, .unset] [(.int z44)]))) (fun t k => XS.iload X41.here hx rfl (hb hby at_244) rfl k) ?_
            have J265 : ∀ (t2 : Int32) (ht2 : t2 = own_ss z44 (2 : Int32) (own_c d3 d6)), own_G p.tables e below (fun o U' => ∃ v L, o = .returned v ∧ (own_law_Q Z p0 p1 p2 h0 n0) v U'.heap L ∧ FrameEnd s o U' L 16 128) (T41.setTop (mkF m 265 #[iv p0, iv p1, iv p2, .val (.double d1), .second, .val (.double d2), .second, .val (.double d3), .second, .val (.double d4), .second, .val (.double d5), .second, .val (.double d6), .second, iv z44, rv a7, rv a22, iv z94, iv b0, iv b1, iv b2, iv t0, iv t1, iv t2, .unset] [])) := by
              intro t2 ht2
              refine own_go (B := (T41.setTop (mkF m 267 #[iv p0, iv p1, iv p2, .val (.double d1), .second, .val (.double d2), .second, .val (.double d3), .second, .val (.double d4), .second, .val (.double d5), .second, .val (.double d6), .second, iv z44, rv a7, rv a22, iv z94, iv b0, iv b1, iv b2, iv t0, iv t1, iv t2, .unset] [(.int b0)]))) (fun t k => XS.iload X41.here hx rfl (hb hby at_265) rfl k) ?_
              have J302 : ∀ (wa : Int32) (hwa : wa = own_and b0 b1 b2 t0 t1 t2), own_G p.tables e below (fun o U' => ∃ v L, o = .returned v ∧ (own_law_Q Z p0 p1 p2 h0 n0) v U'.heap L ∧ FrameEnd s o U' L 16 128) (T41.setTop (mkF m 302 #[iv p0, iv p1, iv p2, .val (.double d1), .second, .val (.double d2), .second, .val (.double d3), .second, .val (.double d4), .second, .val (.double d5), .second, .val (.double d6), .second, iv z44, rv a7, rv a22, iv z94, iv b0, iv b1, iv b2, iv t0, iv t1, iv t2, iv wa] [])) := by
                intro wa hwa
                refine own_go (B := (T41.setTop (mkF m 304 #[iv p0, iv p1, iv p2, .val (.double d1), .second, .val (.double d2), .second, .val (.double d3), .second, .val (.double d4), .second, .val (.double d5), .second, .val (.double d6), .second, iv z44, rv a7, rv a22, iv z94, iv b0, iv b1, iv b2, iv t0, iv t1, iv t2, iv wa] [(.int z94)]))) (fun t k => XS.iload X41.here hx rfl (hb hby at_302) rfl k) ?_
                refine own_go (B := (T41.setTop (mkF m 306 #[iv p0, iv p1, iv p2, .val (.double d1), .second, .val (.double d2), .second, .val (.double d3), .second, .val (.double d4), .second, .val (.double d5), .second, .val (.double d6), .second, iv z44, rv a7, rv a22, iv z94, iv b0, iv b1, iv b2, iv t0, iv t1, iv t2, iv wa] [(.int wa), (.int z94)]))) (fun t k => XS.iload X41.here hx rfl (hb hby at_304) rfl k) ?_
                have hc306 : z94 = wa := (by rw [hz94, hwa, hb0, hb1, hb2, ht0, ht1, ht2]; rfl)
                refine own_icmpN X41 hx (hb hby at_306) (pn := 309) rfl hc306 ?_
                refine own_go (B := (T41.setTop (mkF m 310 #[iv p0, iv p1, iv p2, .val (.double d1), .second, .val (.double d2), .second, .val (.double d3), .second, .val (.double d4), .second, .val (.double d5), .second, .val (.double d6), .second, iv z44, rv a7, rv a22, iv z94, iv b0, iv b1, iv b2, iv t0, iv t1, iv t2, iv wa] [(.int (1 : Int32))]))) (fun t k => own_iconst (v := (1 : Int32)) X41.here hx rfl (hb hby at_309) (by decide) k) ?_
                refine own_go (B := (T41.setTop (mkF m 314 #[iv p0, iv p1, iv p2, .val (.double d1), .second, .val (.double d2), .second, .val (.double d3), .second, .val (.double d4), .second, .val (.double d5), .second, .val (.double d6), .second, iv z44, rv a7, rv a22, iv z94, iv b0, iv b1, iv b2, iv t0, iv t1, iv t2, iv wa] [(.int (1 : Int32))]))) (fun t k => XS.goto X41.here hx rfl (pc0 := 310) (pc' := 314) rfl (hb hby at_310) (by decide) (by decide) k) ?_
                exact own_retZ X41 hx hlk Bd.returns (hb hby at_314) (by decide) (own_b rfl) (own_b rfl) (Q := (own_law_Q Z p0 p1 p2 h0 n0)) ⟨rfl, N41⟩
              refine own_if X41 hx (hb hby at_267) (pc' := 299) (pn := 270) (by decide) (by decide) rfl (fun (hc267 : b0 = (0 : Int32)) => ?_) (fun (hc267 : ¬ b0 = (0 : Int32)) => ?_)
              · refine own_go (B := (T41.setTop (mkF m 300 #[iv p0, iv p1, iv p2, .val (.double d1), .second, .val (.double d2), .second, .val (.double d3), .second, .val (.double d4), .second, .val (.double d5), .second, .val (.double d6), .second, iv z44, rv a7, rv a22, iv z94, iv b0, iv b1, iv b2, iv t0, iv t1, iv t2, .unset] [(.int (0 : Int32))]))) (fun t k => own_iconst (v := (0 : Int32)) X41.here hx rfl (hb hby at_299) (by decide) k) ?_
                refine own_go (B := (T41.setTop (mkF m 302 #[iv p0, iv p1, iv p2, .val (.double d1), .second, .val (.double d2), .second, .val (.double d3), .second, .val (.double d4), .second, .val (.double d5), .second, .val (.double d6), .second, iv z44, rv a7, rv a22, iv z94, iv b0, iv b1, iv b2, iv t0, iv t1, iv t2, iv (0 : Int32)] []))) (fun t k => XS.istore X41.here hx rfl (hb hby at_300) rfl (l' := #[iv p0, iv p1, iv p2, .val (.double d1), .second, .val (.double d2), .second, .val (.double d3), .second, .val (.double d4), .second, .val (.double d5), .second, .val (.double d6), .second, iv z44, rv a7, rv a22, iv z94, iv b0, iv b1, iv b2, iv t0, iv t1, iv t2, iv (0 : Int32)]) rfl k) ?_
                exact J302 _ (by rw [own_and, if_pos hc267])
              · refine own_go (B := (T41.setTop (mkF m 272 #[iv p0, iv p1, iv p2, .val (.double d1), .second, .val (.double d2), .second, .val (.double d3), .second, .val (.double d4), .second, .val (.double d5), .second, .val (.double d6), .second, iv z44, rv a7, rv a22, iv z94, iv b0, iv b1, iv b2, iv t0, iv t1, iv t2, .unset] [(.int b1)]))) (fun t k => XS.iload X41.here hx rfl (hb hby at_270) rfl k) ?_
                refine own_if X41 hx (hb hby at_272) (pc' := 299) (pn := 275) (by decide) (by decide) rfl (fun (hc272 : b1 = (0 : Int32)) => ?_) (fun (hc272 : ¬ b1 = (0 : Int32)) => ?_)
                · refine own_go (B := (T41.setTop (mkF m 300 #[iv p0, iv p1, iv p2, .val (.double d1), .second, .val (.double d2), .second, .val (.double d3), .second, .val (.double d4), .second, .val (.double d5), .second, .val (.double d6), .second, iv z44, rv a7, rv a22, iv z94, iv b0, iv b1, iv b2, iv t0, iv t1, iv t2, .unset] [(.int (0 : Int32))]))) (fun t k => own_iconst (v := (0 : Int32)) X41.here hx rfl (hb hby at_299) (by decide) k) ?_
                  refine own_go (B := (T41.setTop (mkF m 302 #[iv p0, iv p1, iv p2, .val (.double d1), .second, .val (.double d2), .second, .val (.double d3), .second, .val (.double d4), .second, .val (.double d5), .second, .val (.double d6), .second, iv z44, rv a7, rv a22, iv z94, iv b0, iv b1, iv b2, iv t0, iv t1, iv t2, iv (0 : Int32)] []))) (fun t k => XS.istore X41.here hx rfl (hb hby at_300) rfl (l' := #[iv p0, iv p1, iv p2, .val (.double d1), .second, .val (.double d2), .second, .val (.double d3), .second, .val (.double d4), .second, .val (.double d5), .second, .val (.double d6), .second, iv z44, rv a7, rv a22, iv z94, iv b0, iv b1, iv b2, iv t0, iv t1, iv t2, iv (0 : Int32)]) rfl k) ?_
                  exact J302 _ (by rw [own_and, if_neg hc267, if_pos hc272])
                · refine own_go (B := (T41.setTop (mkF m 277 #[iv p0, iv p1, iv p2, .val (.double d1), .second, .val (.double d2), .second, .val (.double d3), .second, .val (.double d4), .second, .val (.double d5), .second, .val (.double d6), .second, iv z44, rv a7, rv a22, iv z94, iv b0, iv b1, iv b2, iv t0, iv t1, iv t2, .unset] [(.int b2)]))) (fun t k => XS.iload X41.here hx rfl (hb hby at_275) rfl k) ?_
                  refine own_if X41 hx (hb hby at_277) (pc' := 299) (pn := 280) (by decide) (by decide) rfl (fun (hc277 : b2 = (0 : Int32)) => ?_) (fun (hc277 : ¬ b2 = (0 : Int32)) => ?_)
                  · refine own_go (B := (T41.setTop (mkF m 300 #[iv p0, iv p1, iv p2, .val (.double d1), .second, .val (.double d2), .second, .val (.double d3), .second, .val (.double d4), .second, .val (.double d5), .second, .val (.double d6), .second, iv z44, rv a7, rv a22, iv z94, iv b0, iv b1, iv b2, iv t0, iv t1, iv t2, .unset] [(.int (0 : Int32))]))) (fun t k => own_iconst (v := (0 : Int32)) X41.here hx rfl (hb hby at_299) (by decide) k) ?_
                    refine own_go (B := (T41.setTop (mkF m 302 #[iv p0, iv p1, iv p2, .val (.double d1), .second, .val (.double d2), .second, .val (.double d3), .second, .val (.double d4), .second, .val (.double d5), .second, .val (.double d6), .second, iv z44, rv a7, rv a22, iv z94, iv b0, iv b1, iv b2, iv t0, iv t1, iv t2, iv (0 : Int32)] []))) (fun t k => XS.istore X41.here hx rfl (hb hby at_300) rfl (l' := #[iv p0, iv p1, iv p2, .val (.double d1), .second, .val (.double d2), .second, .val (.double d3), .second, .val (.double d4), .second, .val (.double d5), .second, .val (.double d6), .second, iv z44, rv a7, rv a22, iv z94, iv b0, iv b1, iv b2, iv t0, iv t1, iv t2, iv (0 : Int32)]) rfl k) ?_
                    exact J302 _ (by rw [own_and, if_neg hc267, if_neg hc272, if_pos hc277])
                  · refine own_go (B := (T41.setTop (mkF m 282 #[iv p0, iv p1, iv p2, .val (.double d1), .second, .val (.double d2), .second, .val (.double d3), .second, .val (.double d4), .second, .val (.double d5), .second, .val (.double d6), .second, iv z44, rv a7, rv a22, iv z94, iv b0, iv b1, iv b2, iv t0, iv t1, iv t2, .unset] [(.int t0)]))) (fun t k => XS.iload X41.here hx rfl (hb hby at_280) rfl k) ?_
                    refine own_if X41 hx (hb hby at_282) (pc' := 295) (pn := 285) (by decide) (by decide) rfl (fun (hc282 : ¬ t0 = (0 : Int32)) => ?_) (fun (hc282 : t0 = (0 : Int32)) => ?_)
                    · refine own_go (B := (T41.setTop (mkF m 296 #[iv p0, iv p1, iv p2, .val (.double d1), .second, .val (.double d2), .second, .val (.double d3), .second, .val (.double d4), .second, .val (.double d5), .second, .val (.double d6), .second, iv z44, rv a7, rv a22, iv z94, iv b0, iv b1, iv b2, iv t0, iv t1, iv t2, .unset] [(.int (1 : Int32))]))) (fun t k => own_iconst (v := (1 : Int32)) X41.here hx rfl (hb hby at_295) (by decide) k) ?_
                      refine own_go (B := (T41.setTop (mkF m 300 #[iv p0, iv p1, iv p2, .val (.double d1), .second, .val (.double d2), .second, .val (.double d3), .second, .val (.double d4), .second, .val (.double d5), .second, .val (.double d6), .second, iv z44, rv a7, rv a22, iv z94, iv b0, iv b1, iv b2, iv t0, iv t1, iv t2, .unset] [(.int (1 : Int32))]))) (fun t k => XS.goto X41.here hx rfl (pc0 := 296) (pc' := 300) rfl (hb hby at_296) (by decide) (by decide) k) ?_
                      refine own_go (B := (T41.setTop (mkF m 302 #[iv p0, iv p1, iv p2, .val (.double d1), .second, .val (.double d2), .second, .val (.double d3), .second, .val (.double d4), .second, .val (.double d5), .second, .val (.double d6), .second, iv z44, rv a7, rv a22, iv z94, iv b0, iv b1, iv b2, iv t0, iv t1, iv t2, iv (1 : Int32)] []))) (fun t k => XS.istore X41.here hx rfl (hb hby at_300) rfl (l' := #[iv p0, iv p1, iv p2, .val (.double d1), .second, .val (.double d2), .second, .val (.double d3), .second, .val (.double d4), .second, .val (.double d5), .second, .val (.double d6), .second, iv z44, rv a7, rv a22, iv z94, iv b0, iv b1, iv b2, iv t0, iv t1, iv t2, iv (1 : Int32)]) rfl k) ?_
                      exact J302 _ (by rw [own_and, if_neg hc267, if_neg hc272, if_neg hc277, if_pos hc282])
                    · refine own_go (B := (T41.setTop (mkF m 287 #[iv p0, iv p1, iv p2, .val (.double d1), .second, .val (.double d2), .second, .val (.double d3), .second, .val (.double d4), .second, .val (.double d5), .second, .val (.double d6), .second, iv z44, rv a7, rv a22, iv z94, iv b0, iv b1, iv b2, iv t0, iv t1, iv t2, .unset] [(.int t1)]))) (fun t k => XS.iload X41.here hx rfl (hb hby at_285) rfl k) ?_
                      refine own_if X41 hx (hb hby at_287) (pc' := 295) (pn := 290) (by decide) (by decide) rfl (fun (hc287 : ¬ t1 = (0 : Int32)) => ?_) (fun (hc287 : t1 = (0 : Int32)) => ?_)
                      · refine own_go (B := (T41.setTop (mkF m 296 #[iv p0, iv p1, iv p2, .val (.double d1), .second, .val (.double d2), .second, .val (.double d3), .second, .val (.double d4), .second, .val (.double d5), .second, .val (.double d6), .second, iv z44, rv a7, rv a22, iv z94, iv b0, iv b1, iv b2, iv t0, iv t1, iv t2, .unset] [(.int (1 : Int32))]))) (fun t k => own_iconst (v := (1 : Int32)) X41.here hx rfl (hb hby at_295) (by decide) k) ?_
                        refine own_go (B := (T41.setTop (mkF m 300 #[iv p0, iv p1, iv p2, .val (.double d1), .second, .val (.double d2), .second, .val (.double d3), .second, .val (.double d4), .second, .val (.double d5), .second, .val (.double d6), .second, iv z44, rv a7, rv a22, iv z94, iv b0, iv b1, iv b2, iv t0, iv t1, iv t2, .unset] [(.int (1 : Int32))]))) (fun t k => XS.goto X41.here hx rfl (pc0 := 296) (pc' := 300) rfl (hb hby at_296) (by decide) (by decide) k) ?_
                        refine own_go (B := (T41.setTop (mkF m 302 #[iv p0, iv p1, iv p2, .val (.double d1), .second, .val (.double d2), .second, .val (.double d3), .second, .val (.double d4), .second, .val (.double d5), .second, .val (.double d6), .second, iv z44, rv a7, rv a22, iv z94, iv b0, iv b1, iv b2, iv t0, iv t1, iv t2, iv (1 : Int32)] []))) (fun t k => XS.istore X41.here hx rfl (hb hby at_300) rfl (l' := #[iv p0, iv p1, iv p2, .val (.double d1), .second, .val (.double d2), .second, .val (.double d3), .second, .val (.double d4), .second, .val (.double d5), .second, .val (.double d6), .second, iv z44, rv a7, rv a22, iv z94, iv b0, iv b1, iv b2, iv t0, iv t1, iv t2, iv (1 : Int32)]) rfl k) ?_
                        exact J302 _ (by rw [own_and, if_neg hc267, if_neg hc272, if_neg hc277, if_neg (fun q => q hc282), if_pos hc287])
                      · refine own_go (B := (T41.setTop (mkF m 292 #[iv p0, iv p1, iv p2, .val (.double d1), .second, .val (.double d2), .second, .val (.double d3), .second, .val (.double d4), .second, .val (.double d5), .second, .val (.double d6), .second, iv z44, rv a7, rv a22, iv z94, iv b0, iv b1, iv b2, iv t0, iv t1, iv t2, .unset] [(.int t2)]))) (fun t k => XS.iload X41.here hx rfl (hb hby at_290) rfl k) ?_
                        refine own_if X41 hx (hb hby at_292) (pc' := 299) (pn := 295) (by decide) (by decide) rfl (fun (hc292 : t2 = (0 : Int32)) => ?_) (fun (hc292 : ¬ t2 = (0 : Int32)) => ?_)
                        · refine own_go (B := (T41.setTop (mkF m 300 #[iv p0, iv p1, iv p2, .val (.double d1), .second, .val (.double d2), .second, .val (.double d3), .second, .val (.double d4), .second, .val (.double d5), .second, .val (.double d6), .second, iv z44, rv a7, rv a22, iv z94, iv b0, iv b1, iv b2, iv t0, iv t1, iv t2, .unset] [(.int (0 : Int32))]))) (fun t k => own_iconst (v := (0 : Int32)) X41.here hx rfl (hb hby at_299) (by decide) k) ?_
                          refine own_go (B := (T41.setTop (mkF m 302 #[iv p0, iv p1, iv p2, .val (.double d1), .second, .val (.double d2), .second, .val (.double d3), .second, .val (.double d4), .second, .val (.double d5), .second, .val (.double d6), .second, iv z44, rv a7, rv a22, iv z94, iv b0, iv b1, iv b2, iv t0, iv t1, iv t2, iv (0 : Int32)] []))) (fun t k => XS.istore X41.here hx rfl (hb hby at_300) rfl (l' := #[iv p0, iv p1, iv p2, .val (.double d1), .second, .val (.double d2), .second, .val (.double d3), .second, .val (.double d4), .second, .val (.double d5), .second, .val (.double d6), .second, iv z44, rv a7, rv a22, iv z94, iv b0, iv b1, iv b2, iv t0, iv t1, iv t2, iv (0 : Int32)]) rfl k) ?_
                          exact J302 _ (by rw [own_and, if_neg hc267, if_neg hc272, if_neg hc277, if_neg (fun q => q hc282), if_neg (fun q => q hc287), if_pos hc292])
                        · refine own_go (B := (T41.setTop (mkF m 296 #[iv p0, iv p1, iv p2, .val (.double d1), .second, .val (.double d2), .second, .val (.double d3), .second, .val (.double d4), .second, .val (.double d5), .second, .val (.double d6), .second, iv z44, rv a7, rv a22, iv z94, iv b0, iv b1, iv b2, iv t0, iv t1, iv t2, .unset] [(.int (1 : Int32))]))) (fun t k => own_iconst (v := (1 : Int32)) X41.here hx rfl (hb hby at_295) (by decide) k) ?_
                          refine own_go (B := (T41.setTop (mkF m 300 #[iv p0, iv p1, iv p2, .val (.double d1), .second, .val (.double d2), .second, .val (.double d3), .second, .val (.double d4), .second, .val (.double d5), .second, .val (.double d6), .second, iv z44, rv a7, rv a22, iv z94, iv b0, iv b1, iv b2, iv t0, iv t1, iv t2, .unset] [(.int (1 : Int32))]))) (fun t k => XS.goto X41.here hx rfl (pc0 := 296) (pc' := 300) rfl (hb hby at_296) (by decide) (by decide) k) ?_
                          refine own_go (B := (T41.setTop (mkF m 302 #[iv p0, iv p1, iv p2, .val (.double d1), .second, .val (.double d2), .second, .val (.double d3), .second, .val (.double d4), .second, .val (.double d5), .second, .val (.double d6), .second, iv z44, rv a7, rv a22, iv z94, iv b0, iv b1, iv b2, iv t0, iv t1, iv t2, iv (1 : Int32)] []))) (fun t k => XS.istore X41.here hx rfl (hb hby at_300) rfl (l' := #[iv p0, iv p1, iv p2, .val (.double d1), .second, .val (.double d2), .second, .val (.double d3), .second, .val (.double d4), .second, .val (.double d5), .second, .val (.double d6), .second, iv z44, rv a7, rv a22, iv z94, iv b0, iv b1, iv b2, iv t0, iv t1, iv t2, iv (1 : Int32)]) rfl k) ?_
                          exact J302 _ (by rw [own_and, if_neg hc267, if_neg hc272, if_neg hc277, if_neg (fun q => q hc282), if_neg (fun q => q hc287), if_neg hc292])
            refine own_go (B := (T41.setTop (mkF m 247 #[iv p0, iv p1, iv p2, .val (.double d1), .second, .val (.double d2), .second, .val (.double d3), .second, .val (.double d4), .second, .val (.double d5), .second, .val (.double d6), .second, iv z44, rv a7, rv a22, iv z94, iv b0, iv b1, iv b2, iv t0, iv t1, .unset, .unset] [(.int (2 : Int32)), (.int z44)]))) (fun t k => own_iconst (v := (2 : Int32)) X41.here hx rfl (hb hby at_246) (by decide) k) ?_
            refine own_icmp X41 hx (hb hby at_247) (pc' := 262) (pn := 250) (by decide) (by decide) rfl (fun (hc247 : (2 : Int32) < z44) => ?_) (fun (hc247 : ¬ (2 : Int32) < z44) => ?_)
            · refine own_go (B := (T41.setTop (mkF m 263 #[iv p0, iv p1, iv p2, .val (.double d1), .second, .val (.double d2), .second, .val (.double d3), .second, .val (.double d4), .second, .val (.double d5), .second, .val (.double d6), .second, iv z44, rv a7, rv a22, iv z94, iv b0, iv b1, iv b2, iv t0, iv t1, .unset, .unset] [(.int (0 : Int32))]))) (fun t k => own_iconst (v := (0 : Int32)) X41.here hx rfl (hb hby at_262) (by decide) k) ?_
              refine own_go (B := (T41.setTop (mkF m 265 #[iv p0, iv p1, iv p2, .val (.double d1), .second, .val (.double d2), .second, .val (.double d3), .second, .val (.double d4), .second, .val (.double d5), .second, .val (.double d6), .second, iv z44, rv a7, rv a22, iv z94, iv b0, iv b1, iv b2, iv t0, iv t1, iv (0 : Int32), .unset] []))) (fun t k => XS.istore X41.here hx rfl (hb hby at_263) rfl (l' := #[iv p0, iv p1, iv p2, .val (.double d1), .second, .val (.double d2), .second, .val (.double d3), .second, .val (.double d4), .second, .val (.double d5), .second, .val (.double d6), .second, iv z44, rv a7, rv a22, iv z94, iv b0, iv b1, iv b2, iv t0, iv t1, iv (0 : Int32), .unset]) rfl k) ?_
              exact J265 _ (by rw [own_ss, if_pos hc247])
            · refine own_go (B := (T41.setTop (mkF m 252 #[iv p0, iv p1, iv p2, .val (.double d1), .second, .val (.double d2), .second, .val (.double d3), .second, .val (.double d4), .second, .val (.double d5), .second, .val (.double d6), .second, iv z44, rv a7, rv a22, iv z94, iv b0, iv b1, iv b2, iv t0, iv t1, .unset, .unset] [(.double d3)]))) (fun t k => XS.dload X41.here hx rfl (hb hby at_250) rfl k) ?_
              refine own_go (B := (T41.setTop (mkF m 254 #[iv p0, iv p1, iv p2, .val (.double d1), .second, .val (.double d2), .second, .val (.double d3), .second, .val (.double d4), .second, .val (.double d5), .second, .val (.double d6), .second, iv z44, rv a7, rv a22, iv z94, iv b0, iv b1, iv b2, iv t0, iv t1, .unset, .unset] [(.double d6), (.double d3)]))) (fun t k => XS.dload X41.here hx rfl (hb hby at_252) rfl k) ?_
              refine own_go (B := (T41.setTop (mkF m 255 #[iv p0, iv p1, iv p2, .val (.double d1), .second, .val (.double d2), .second, .val (.double d3), .second, .val (.double d4), .second, .val (.double d5), .second, .val (.double d6), .second, iv z44, rv a7, rv a22, iv z94, iv b0, iv b1, iv b2, iv t0, iv t1, .unset, .unset] [(.int (own_c d3 d6))]))) (fun t k => XS.dcmpS (x := d3) (y := d6) (v := (own_c d3 d6)) X41.here hx rfl (hb hby at_254) rfl rfl k) ?_
              refine own_if X41 hx (hb hby at_255) (pc' := 262) (pn := 258) (by decide) (by decide) rfl (fun (hc255 : ¬ (0 : Int32) < (own_c d3 d6)) => ?_) (fun (hc255 : (0 : Int32) < (own_c d3 d6)) => ?_)
              · refine own_go (B := (T41.setTop (mkF m 263 #[iv p0, iv p1, iv p2, .val (.double d1), .second, .val (.double d2), .second, .val (.double d3), .second, .val (.double d4), .second, .val (.double d5), .second, .val (.double d6), .second, iv z44, rv a7, rv a22, iv z94, iv b0, iv b1, iv b2, iv t0, iv t1, .unset, .unset] [(.int (0 : Int32))]))) (fun t k => own_iconst (v := (0 : Int32)) X41.here hx rfl (hb hby at_262) (by decide) k) ?_
                refine own_go (B := (T41.setTop (mkF m 265 #[iv p0, iv p1, iv p2, .val (.double d1), .second, .val (.double d2), .second, .val (.double d3), .second, .val (.double d4), .second, .val (.double d5), .second, .val (.double d6), .second, iv z44, rv a7, rv a22, iv z94, iv b0, iv b1, iv b2, iv t0, iv t1, iv (0 : Int32), .unset] []))) (fun t k => XS.istore X41.here hx rfl (hb hby at_263) rfl (l' := #[iv p0, iv p1, iv p2, .val (.double d1), .second, .val (.double d2), .second, .val (.double d3), .second, .val (.double d4), .second, .val (.double d5), .second, .val (.double d6), .second, iv z44, rv a7, rv a22, iv z94, iv b0, iv b1, iv b2, iv t0, iv t1, iv (0 : Int32), .unset]) rfl k) ?_
                exact J265 _ (by rw [own_ss, if_neg hc247, if_neg hc255])
              · refine own_go (B := (T41.setTop (mkF m 259 #[iv p0, iv p1, iv p2, .val (.double d1), .second, .val (.double d2), .second, .val (.double d3), .second, .val (.double d4), .second, .val (.double d5), .second, .val (.double d6), .second, iv z44, rv a7, rv a22, iv z94, iv b0, iv b1, iv b2, iv t0, iv t1, .unset, .unset] [(.int (1 : Int32))]))) (fun t k => own_iconst (v := (1 : Int32)) X41.here hx rfl (hb hby at_258) (by decide) k) ?_
                refine own_go (B := (T41.setTop (mkF m 263 #[iv p0, iv p1, iv p2, .val (.double d1), .second, .val (.double d2), .second, .val (.double d3), .second, .val (.double d4), .second, .val (.double d5), .second, .val (.double d6), .second, iv z44, rv a7, rv a22, iv z94, iv b0, iv b1, iv b2, iv t0, iv t1, .unset, .unset] [(.int (1 : Int32))]))) (fun t k => XS.goto X41.here hx rfl (pc0 := 259) (pc' := 263) rfl (hb hby at_259) (by decide) (by decide) k) ?_
                refine own_go (B := (T41.setTop (mkF m 265 #[iv p0, iv p1, iv p2, .val (.double d1), .second, .val (.double d2), .second, .val (.double d3), .second, .val (.double d4), .second, .val (.double d5), .second, .val (.double d6), .second, iv z44, rv a7, rv a22, iv z94, iv b0, iv b1, iv b2, iv t0, iv t1, iv (1 : Int32), .unset] []))) (fun t k => XS.istore X41.here hx rfl (hb hby at_263) rfl (l' := #[iv p0, iv p1, iv p2, .val (.double d1), .second, .val (.double d2), .second, .val (.double d3), .second, .val (.double d4), .second, .val (.double d5), .second, .val (.double d6), .second, iv z44, rv a7, rv a22, iv z94, iv b0, iv b1, iv b2, iv t0, iv t1, iv (1 : Int32), .unset]) rfl k) ?_
                exact J265 _ (by rw [own_ss, if_neg hc247, if_pos hc255])
          refine own_go (B := (T41.setTop (mkF m 226 #[iv p0, iv p1, iv p2, .val (.double d1), .second, .val (.double d2), .second, .val (.double d3), .second, .val (.double d4), .second, .val (.double d5), .second, .val (.double d6), .second, iv z44, rv a7, rv a22, iv z94, iv b0, iv b1, iv b2, iv t0, .unset, .unset, .unset] [(.int (1 : Int32)), (.int z44)]))) (fun t k => own_iconst (v := (1 : Int32)) X41.here hx rfl (hb hby at_225) (by decide) k) ?_
          refine own_icmp X41 hx (hb hby at_226) (pc' := 241) (pn := 229) (by decide) (by decide) rfl (fun (hc226 : (1 : Int32) < z44) => ?_) (fun (hc226 : ¬ (1 : Int32) < z44) => ?_)
          · refine own_go (B := (T41.setTop (mkF m 242 #[iv p0, iv p1, iv p2, .val (.double d1), .second, .val (.double d2), .second, .val (.double d3), .second, .val (.double d4), .second, .val (.double d5), .second, .val (.double d6), .second, iv z44, rv a7, rv a22, iv z94, iv b0, iv b1, iv b2, iv t0, .unset, .unset, .unset] [(.int (0 : Int32))]))) (fun t k => own_iconst (v := (0 : Int32)) X41.here hx rfl (hb hby at_241) (by decide) k) ?_
            refine own_go (B := (T41.setTop (mkF m 244 #[iv p0, iv p1, iv p2, .val (.double d1), .second, .val (.double d2), .second, .val (.double d3), .second, .val (.double d4), .second, .val (.double d5), .second, .val (.double d6), .second, iv z44, rv a7, rv a22, iv z94, iv b0, iv b1, iv b2, iv t0, iv (0 : Int32), .unset, .unset] []))) (fun t k => XS.istore X41.here hx rfl (hb hby at_242) rfl (l' := #[iv p0, iv p1, iv p2, .val (.double d1), .second, .val (.double d2), .second, .val (.double d3), .second, .val (.double d4), .second, .val (.double d5), .second, .val (.double d6), .second, iv z44, rv a7, rv a22, iv z94, iv b0, iv b1, iv b2, iv t0, iv (0 : Int32), .unset, .unset]) rfl k) ?_
            exact J244 _ (by rw [own_ss, if_pos hc226])
          · refine own_go (B := (T41.setTop (mkF m 231 #[iv p0, iv p1, iv p2, .val (.double d1), .second, .val (.double d2), .second, .val (.double d3), .second, .val (.double d4), .second, .val (.double d5), .second, .val (.double d6), .second, iv z44, rv a7, rv a22, iv z94, iv b0, iv b1, iv b2, iv t0, .unset, .unset, .unset] [(.double d2)]))) (fun t k => XS.dload X41.here hx rfl (hb hby at_229) rfl k) ?_
            refine own_go (B := (T41.setTop (mkF m 233 #[iv p0, iv p1, iv p2, .val (.double d1), .second, .val (.double d2), .second, .val (.double d3), .second, .val (.double d4), .second, .val (.double d5), .second, .val (.double d6), .second, iv z44, rv a7, rv a22, iv z94, iv b0, iv b1, iv b2, iv t0, .unset, .unset, .unset] [(.double d5), (.double d2)]))) (fun t k => XS.dload X41.here hx rfl (hb hby at_231) rfl k) ?_
            refine own_go (B := (T41.setTop (mkF m 234 #[iv p0, iv p1, iv p2, .val (.double d1), .second, .val (.double d2), .second, .val (.double d3), .second, .val (.double d4), .second, .val (.double d5), .second, .val (.double d6), .second, iv z44, rv a7, rv a22, iv z94, iv b0, iv b1, iv b2, iv t0, .unset, .unset, .unset] [(.int (own_c d2 d5))]))) (fun t k => XS.dcmpS (x := d2) (y := d5) (v := (own_c d2 d5)) X41.here hx rfl (hb hby at_233) rfl rfl k) ?_
            refine own_if X41 hx (hb hby at_234) (pc' := 241) (pn := 237) (by decide) (by decide) rfl (fun (hc234 : ¬ (0 : Int32) < (own_c d2 d5)) => ?_) (fun (hc234 : (0 : Int32) < (own_c d2 d5)) => ?_)
            · refine own_go (B := (T41.setTop (mkF m 242 #[iv p0, iv p1, iv p2, .val (.double d1), .second, .val (.double d2), .second, .val (.double d3), .second, .val (.double d4), .second, .val (.double d5), .second, .val (.double d6), .second, iv z44, rv a7, rv a22, iv z94, iv b0, iv b1, iv b2, iv t0, .unset, .unset, .unset] [(.int (0 : Int32))]))) (fun t k => own_iconst (v := (0 : Int32)) X41.here hx rfl (hb hby at_241) (by decide) k) ?_
              refine own_go (B := (T41.setTop (mkF m 244 #[iv p0, iv p1, iv p2, .val (.double d1), .second, .val (.double d2), .second, .val (.double d3), .second, .val (.double d4), .second, .val (.double d5), .second, .val (.double d6), .second, iv z44, rv a7, rv a22, iv z94, iv b0, iv b1, iv b2, iv t0, iv (0 : Int32), .unset, .unset] []))) (fun t k => XS.istore X41.here hx rfl (hb hby at_242) rfl (l' := #[iv p0, iv p1, iv p2, .val (.double d1), .second, .val (.double d2), .second, .val (.double d3), .second, .val (.double d4), .second, .val (.double d5), .second, .val (.double d6), .second, iv z44, rv a7, rv a22, iv z94, iv b0, iv b1, iv b2, iv t0, iv (0 : Int32), .unset, .unset]) rfl k) ?_
              exact J244 _ (by rw [own_ss, if_neg hc226, if_neg hc234])
            · refine own_go (B := (T41.setTop (mkF m 238 #[iv p0, iv p1, iv p2, .val (.double d1), .second, .val (.double d2), .second, .val (.double d3), .second, .val (.double d4), .second, .val (.double d5), .second, .val (.double d6), .second, iv z44, rv a7, rv a22, iv z94, iv b0, iv b1, iv b2, iv t0, .unset, .unset, .unset] [(.int (1 : Int32))]))) (fun t k => own_iconst (v := (1 : Int32)) X41.here hx rfl (hb hby at_237) (by decide) k) ?_
              refine own_go (B := (T41.setTop (mkF m 242 #[iv p0, iv p1, iv p2, .val (.double d1), .second, .val (.double d2), .second, .val (.double d3), .second, .val (.double d4), .second, .val (.double d5), .second, .val (.double d6), .second, iv z44, rv a7, rv a22, iv z94, iv b0, iv b1, iv b2, iv t0, .unset, .unset, .unset] [(.int (1 : Int32))]))) (fun t k => XS.goto X41.here hx rfl (pc0 := 238) (pc' := 242) rfl (hb hby at_238) (by decide) (by decide) k) ?_
              refine own_go (B := (T41.setTop (mkF m 244 #[iv p0, iv p1, iv p2, .val (.double d1), .second, .val (.double d2), .second, .val (.double d3), .second, .val (.double d4), .second, .val (.double d5), .second, .val (.double d6), .second, iv z44, rv a7, rv a22, iv z94, iv b0, iv b1, iv b2, iv t0, iv (1 : Int32), .unset, .unset] []))) (fun t k => XS.istore X41.here hx rfl (hb hby at_242) rfl (l' := #[iv p0, iv p1, iv p2, .val (.double d1), .second, .val (.double d2), .second, .val (.double d3), .second, .val (.double d4), .second, .val (.double d5), .second, .val (.double d6), .second, iv z44, rv a7, rv a22, iv z94, iv b0, iv b1, iv b2, iv t0, iv (1 : Int32), .unset, .unset]) rfl k) ?_
              exact J244 _ (by rw [own_ss, if_neg hc226, if_pos hc234])
        refine own_if X41 hx (hb hby at_206) (pc' := 220) (pn := 209) (by decide) (by decide) rfl (fun (hc206 : (0 : Int32) < z44) => ?_) (fun (hc206 : ¬ (0 : Int32) < z44) => ?_)
        · refine own_go (B := (T41.setTop (mkF m 221 #[iv p0, iv p1, iv p2, .val (.double d1), .second, .val (.double d2), .second, .val (.double d3), .second, .val (.double d4), .second, .val (.double d5), .second, .val (.double d6), .second, iv z44, rv a7, rv a22, iv z94, iv b0, iv b1, iv b2, .unset, .unset, .unset, .unset] [(.int (0 : Int32))]))) (fun t k => own_iconst (v := (0 : Int32)) X41.here hx rfl (hb hby at_220) (by decide) k) ?_
          refine own_go (B := (T41.setTop (mkF m 223 #[iv p0, iv p1, iv p2, .val (.double d1), .second, .val (.double d2), .second, .val (.double d3), .second, .val (.double d4), .second, .val (.double d5), .second, .val (.double d6), .second, iv z44, rv a7, rv a22, iv z94, iv b0, iv b1, iv b2, iv (0 : Int32), .unset, .unset, .unset] []))) (fun t k => XS.istore X41.here hx rfl (hb hby at_221) rfl (l' := #[iv p0, iv p1, iv p2, .val (.double d1), .second, .val (.double d2), .second, .val (.double d3), .second, .val (.double d4), .second, .val (.double d5), .second, .val (.double d6), .second, iv z44, rv a7, rv a22, iv z94, iv b0, iv b1, iv b2, iv (0 : Int32), .unset, .unset, .unset]) rfl k) ?_
          exact J223 _ (by rw [own_ss, if_pos hc206])
        · refine own_go (B := (T41.setTop (mkF m 210 #[iv p0, iv p1, iv p2, .val (.double d1), .second, .val (.double d2), .second, .val (.double d3), .second, .val (.double d4), .second, .val (.double d5), .second, .val (.double d6), .second, iv z44, rv a7, rv a22, iv z94, iv b0, iv b1, iv b2, .unset, .unset, .unset, .unset] [(.double d1)]))) (fun t k => XS.dloadN X41.here hx rfl (hb hby at_209) rfl k) ?_
          refine own_go (B := (T41.setTop (mkF m 212 #[iv p0, iv p1, iv p2, .val (.double d1), .second, .val (.double d2), .second, .val (.double d3), .second, .val (.double d4), .second, .val (.double d5), .second, .val (.double d6), .second, iv z44, rv a7, rv a22, iv z94, iv b0, iv b1, iv b2, .unset, .unset, .unset, .unset] [(.double d4), (.double d1)]))) (fun t k => XS.dload X41.here hx rfl (hb hby at_210) rfl k) ?_
          refine own_go (B := (T41.setTop (mkF m 213 #[iv p0, iv p1, iv p2, .val (.double d1), .second, .val (.double d2), .second, .val (.double d3), .second, .val (.double d4), .second, .val (.double d5), .second, .val (.double d6), .second, iv z44, rv a7, rv a22, iv z94, iv b0, iv b1, iv b2, .unset, .unset, .unset, .unset] [(.int (own_c d1 d4))]))) (fun t k => XS.dcmpS (x := d1) (y := d4) (v := (own_c d1 d4)) X41.here hx rfl (hb hby at_212) rfl rfl k) ?_
          refine own_if X41 hx (hb hby at_213) (pc' := 220) (pn := 216) (by decide) (by decide) rfl (fun (hc213 : ¬ (0 : Int32) < (own_c d1 d4)) => ?_) (fun (hc213 : (0 : Int32) < (own_c d1 d4)) => ?_)
          · refine own_go (B := (T41.setTop (mkF m 221 #[iv p0, iv p1, iv p2, .val (.double d1), .second, .val (.double d2), .second, .val (.double d3), .second, .val (.double d4), .second, .val (.double d5), .second, .val (.double d6), .second, iv z44, rv a7, rv a22, iv z94, iv b0, iv b1, iv b2, .unset, .unset, .unset, .unset] [(.int (0 : Int32))]))) (fun t k => own_iconst (v := (0 : Int32)) X41.here hx rfl (hb hby at_220) (by decide) k) ?_
            refine own_go (B := (T41.setTop (mkF m 223 #[iv p0, iv p1, iv p2, .val (.double d1), .second, .val (.double d2), .second, .val (.double d3), .second, .val (.double d4), .second, .val (.double d5), .second, .val (.double d6), .second, iv z44, rv a7, rv a22, iv z94, iv b0, iv b1, iv b2, iv (0 : Int32), .unset, .unset, .unset] []))) (fun t k => XS.istore X41.here hx rfl (hb hby at_221) rfl (l' := #[iv p0, iv p1, iv p2, .val (.double d1), .second, .val (.double d2), .second, .val (.double d3), .second, .val (.double d4), .second, .val (.double d5), .second, .val (.double d6), .second, iv z44, rv a7, rv a22, iv z94, iv b0, iv b1, iv b2, iv (0 : Int32), .unset, .unset, .unset]) rfl k) ?_
            exact J223 _ (by rw [own_ss, if_neg hc206, if_neg hc213])
          · refine own_go (B := (T41.setTop (mkF m 217 #[iv p0, iv p1, iv p2, .val (.double d1), .second, .val (.double d2), .second, .val (.double d3), .second, .val (.double d4), .second, .val (.double d5), .second, .val (.double d6), .second, iv z44, rv a7, rv a22, iv z94, iv b0, iv b1, iv b2, .unset, .unset, .unset, .unset] [(.int (1 : Int32))]))) (fun t k => own_iconst (v := (1 : Int32)) X41.here hx rfl (hb hby at_216) (by decide) k) ?_
            refine own_go (B := (T41.setTop (mkF m 221 #[iv p0, iv p1, iv p2, .val (.double d1), .second, .val (.double d2), .second, .val (.double d3), .second, .val (.double d4), .second, .val (.double d5), .second, .val (.double d6), .second, iv z44, rv a7, rv a22, iv z94, iv b0, iv b1, iv b2, .unset, .unset, .unset, .unset] [(.int (1 : Int32))]))) (fun t k => XS.goto X41.here hx rfl (pc0 := 217) (pc' := 221) rfl (hb hby at_217) (by decide) (by decide) k) ?_
            refine own_go (B := (T41.setTop (mkF m 223 #[iv p0, iv p1, iv p2, .val (.double d1), .second, .val (.double d2), .second, .val (.double d3), .second, .val (.double d4), .second, .val (.double d5), .second, .val (.double d6), .second, iv z44, rv a7, rv a22, iv z94, iv b0, iv b1, iv b2, iv (1 : Int32), .unset, .unset, .unset] []))) (fun t k => XS.istore X41.here hx rfl (hb hby at_221) rfl (l' := #[iv p0, iv p1, iv p2, .val (.double d1), .second, .val (.double d2), .second, .val (.double d3), .second, .val (.double d4), .second, .val (.double d5), .second, .val (.double d6), .second, iv z44, rv a7, rv a22, iv z94, iv b0, iv b1, iv b2, iv (1 : Int32), .unset, .unset, .unset]) rfl k) ?_
            exact J223 _ (by rw [own_ss, if_neg hc206, if_pos hc213])
      refine own_go (B := (T41.setTop (mkF m 170 #[iv p0, iv p1, iv p2, .val (.double d1), .second, .val (.double d2), .second, .val (.double d3), .second, .val (.double d4), .second, .val (.double d5), .second, .val (.double d6), .second, iv z44, rv a7, rv a22, iv z94, iv b0, iv b1, .unset, .unset, .unset, .unset, .unset] [(.int (2 : Int32)), (.int z44)]))) (fun t k => own_iconst (v := (2 : Int32)) X41.here hx rfl (hb hby at_169) (by decide) k) ?_
      refine own_icmp X41 hx (hb hby at_170) (pc' := 189) (pn := 173) (by decide) (by decide) rfl (fun (hc170 : ¬ (2 : Int32) < z44) => ?_) (fun (hc170 : (2 : Int32) < z44) => ?_)
      · refine own_go (B := (T41.setTop (mkF m 191 #[iv p0, iv p1, iv p2, .val (.double d1), .second, .val (.double d2), .second, .val (.double d3), .second, .val (.double d4), .second, .val (.double d5), .second, .val (.double d6), .second, iv z44, rv a7, rv a22, iv z94, iv b0, iv b1, .unset, .unset, .unset, .unset, .unset] [(.double d3)]))) (fun t k => XS.dload X41.here hx rfl (hb hby at_189) rfl k) ?_
        refine own_go (B := (T41.setTop (mkF m 193 #[iv p0, iv p1, iv p2, .val (.double d1), .second, .val (.double d2), .second, .val (.double d3), .second, .val (.double d4), .second, .val (.double d5), .second, .val (.double d6), .second, iv z44, rv a7, rv a22, iv z94, iv b0, iv b1, .unset, .unset, .unset, .unset, .unset] [(.double d6), (.double d3)]))) (fun t k => XS.dload X41.here hx rfl (hb hby at_191) rfl k) ?_
        refine own_go (B := (T41.setTop (mkF m 194 #[iv p0, iv p1, iv p2, .val (.double d1), .second, .val (.double d2), .second, .val (.double d3), .second, .val (.double d4), .second, .val (.double d5), .second, .val (.double d6), .second, iv z44, rv a7, rv a22, iv z94, iv b0, iv b1, .unset, .unset, .unset, .unset, .unset] [(.int (own_c d3 d6))]))) (fun t k => XS.dcmpS (x := d3) (y := d6) (v := (own_c d3 d6)) X41.here hx rfl (hb hby at_193) rfl rfl k) ?_
        refine own_if X41 hx (hb hby at_194) (pc' := 201) (pn := 197) (by decide) (by decide) rfl (fun (hc194 : (own_c d3 d6) < (0 : Int32)) => ?_) (fun (hc194 : ¬ (own_c d3 d6) < (0 : Int32)) => ?_)
        · refine own_go (B := (T41.setTop (mkF m 202 #[iv p0, iv p1, iv p2, .val (.double d1), .second, .val (.double d2), .second, .val (.double d3), .second, .val (.double d4), .second, .val (.double d5), .second, .val (.double d6), .second, iv z44, rv a7, rv a22, iv z94, iv b0, iv b1, .unset, .unset, .unset, .unset, .unset] [(.int (0 : Int32))]))) (fun t k => own_iconst (v := (0 : Int32)) X41.here hx rfl (hb hby at_201) (by decide) k) ?_
          refine own_go (B := (T41.setTop (mkF m 204 #[iv p0, iv p1, iv p2, .val (.double d1), .second, .val (.double d2), .second, .val (.double d3), .second, .val (.double d4), .second, .val (.double d5), .second, .val (.double d6), .second, iv z44, rv a7, rv a22, iv z94, iv b0, iv b1, iv (0 : Int32), .unset, .unset, .unset, .unset] []))) (fun t k => XS.istore X41.here hx rfl (hb hby at_202) rfl (l' := #[iv p0, iv p1, iv p2, .val (.double d1), .second, .val (.double d2), .second, .val (.double d3), .second, .val (.double d4), .second, .val (.double d5), .second, .val (.double d6), .second, iv z44, rv a7, rv a22, iv z94, iv b0, iv b1, iv (0 : Int32), .unset, .unset, .unset, .unset]) rfl k) ?_
          exact J204 _ (by rw [own_okk, if_neg hc170, if_pos hc194])
        · refine own_go (B := (T41.setTop (mkF m 198 #[iv p0, iv p1, iv p2, .val (.double d1), .second, .val (.double d2), .second, .val (.double d3), .second, .val (.double d4), .second, .val (.double d5), .second, .val (.double d6), .second, iv z44, rv a7, rv a22, iv z94, iv b0, iv b1, .unset, .unset, .unset, .unset, .unset] [(.int (1 : Int32))]))) (fun t k => own_iconst (v := (1 : Int32)) X41.here hx rfl (hb hby at_197) (by decide) k) ?_
          refine own_go (B := (T41.setTop (mkF m 202 #[iv p0, iv p1, iv p2, .val (.double d1), .second, .val (.double d2), .second, .val (.double d3), .second, .val (.double d4), .second, .val (.double d5), .second, .val (.double d6), .second, iv z44, rv a7, rv a22, iv z94, iv b0, iv b1, .unset, .unset, .unset, .unset, .unset] [(.int (1 : Int32))]))) (fun t k => XS.goto X41.here hx rfl (pc0 := 198) (pc' := 202) rfl (hb hby at_198) (by decide) (by decide) k) ?_
          refine own_go (B := (T41.setTop (mkF m 204 #[iv p0, iv p1, iv p2, .val (.double d1), .second, .val (.double d2), .second, .val (.double d3), .second, .val (.double d4), .second, .val (.double d5), .second, .val (.double d6), .second, iv z44, rv a7, rv a22, iv z94, iv b0, iv b1, iv (1 : Int32), .unset, .unset, .unset, .unset] []))) (fun t k => XS.istore X41.here hx rfl (hb hby at_202) rfl (l' := #[iv p0, iv p1, iv p2, .val (.double d1), .second, .val (.double d2), .second, .val (.double d3), .second, .val (.double d4), .second, .val (.double d5), .second, .val (.double d6), .second, iv z44, rv a7, rv a22, iv z94, iv b0, iv b1, iv (1 : Int32), .unset, .unset, .unset, .unset]) rfl k) ?_
          exact J204 _ (by rw [own_okk, if_neg hc170, if_neg hc194])
      · refine own_go (B := (T41.setTop (mkF m 175 #[iv p0, iv p1, iv p2, .val (.double d1), .second, .val (.double d2), .second, .val (.double d3), .second, .val (.double d4), .second, .val (.double d5), .second, .val (.double d6), .second, iv z44, rv a7, rv a22, iv z94, iv b0, iv b1, .unset, .unset, .unset, .unset, .unset] [(.double d3)]))) (fun t k => XS.dload X41.here hx rfl (hb hby at_173) rfl k) ?_
        refine own_go (B := (T41.setTop (mkF m 177 #[iv p0, iv p1, iv p2, .val (.double d1), .second, .val (.double d2), .second, .val (.double d3), .second, .val (.double d4), .second, .val (.double d5), .second, .val (.double d6), .second, iv z44, rv a7, rv a22, iv z94, iv b0, iv b1, .unset, .unset, .unset, .unset, .unset] [(.double d6), (.double d3)]))) (fun t k => XS.dload X41.here hx rfl (hb hby at_175) rfl k) ?_
        refine own_go (B := (T41.setTop (mkF m 178 #[iv p0, iv p1, iv p2, .val (.double d1), .second, .val (.double d2), .second, .val (.double d3), .second, .val (.double d4), .second, .val (.double d5), .second, .val (.double d6), .second, iv z44, rv a7, rv a22, iv z94, iv b0, iv b1, .unset, .unset, .unset, .unset, .unset] [(.int (own_c d3 d6))]))) (fun t k => XS.dcmpS (x := d3) (y := d6) (v := (own_c d3 d6)) X41.here hx rfl (hb hby at_177) rfl rfl k) ?_
        refine own_if X41 hx (hb hby at_178) (pc' := 185) (pn := 181) (by decide) (by decide) rfl (fun (hc178 : ¬ (own_c d3 d6) = (0 : Int32)) => ?_) (fun (hc178 : (own_c d3 d6) = (0 : Int32)) => ?_)
        · refine own_go (B := (T41.setTop (mkF m 186 #[iv p0, iv p1, iv p2, .val (.double d1), .second, .val (.double d2), .second, .val (.double d3), .second, .val (.double d4), .second, .val (.double d5), .second, .val (.double d6), .second, iv z44, rv a7, rv a22, iv z94, iv b0, iv b1, .unset, .unset, .unset, .unset, .unset] [(.int (0 : Int32))]))) (fun t k => own_iconst (v := (0 : Int32)) X41.here hx rfl (hb hby at_185) (by decide) k) ?_
          refine own_go (B := (T41.setTop (mkF m 202 #[iv p0, iv p1, iv p2, .val (.double d1), .second, .val (.double d2), .second, .val (.double d3), .second, .val (.double d4), .second, .val (.double d5), .second, .val (.double d6), .second, iv z44, rv a7, rv a22, iv z94, iv b0, iv b1, .unset, .unset, .unset, .unset, .unset] [(.int (0 : Int32))]))) (fun t k => XS.goto X41.here hx rfl (pc0 := 186) (pc' := 202) rfl (hb hby at_186) (by decide) (by decide) k) ?_
          refine own_go (B := (T41.setTop (mkF m 204 #[iv p0, iv p1, iv p2, .val (.double d1), .second, .val (.double d2), .second, .val (.double d3), .second, .val (.double d4), .second, .val (.double d5), .second, .val (.double d6), .second, iv z44, rv a7, rv a22, iv z94, iv b0, iv b1, iv (0 : Int32), .unset, .unset, .unset, .unset] []))) (fun t k => XS.istore X41.here hx rfl (hb hby at_202) rfl (l' := #[iv p0, iv p1, iv p2, .val (.double d1), .second, .val (.double d2), .second, .val (.double d3), .second, .val (.double d4), .second, .val (.double d5), .second, .val (.double d6), .second, iv z44, rv a7, rv a22, iv z94, iv b0, iv b1, iv (0 : Int32), .unset, .unset, .unset, .unset]) rfl k) ?_
          exact J204 _ (by rw [own_okk, if_pos hc170, if_neg hc178])
        · refine own_go (B := (T41.setTop (mkF m 182 #[iv p0, iv p1, iv p2, .val (.double d1), .second, .val (.double d2), .second, .val (.double d3), .second, .val (.double d4), .second, .val (.double d5), .second, .val (.double d6), .second, iv z44, rv a7, rv a22, iv z94, iv b0, iv b1, .unset, .unset, .unset, .unset, .unset] [(.int (1 : Int32))]))) (fun t k => own_iconst (v := (1 : Int32)) X41.here hx rfl (hb hby at_181) (by decide) k) ?_
          refine own_go (B := (T41.setTop (mkF m 202 #[iv p0, iv p1, iv p2, .val (.double d1), .second, .val (.double d2), .second, .val (.double d3), .second, .val (.double d4), .second, .val (.double d5), .second, .val (.double d6), .second, iv z44, rv a7, rv a22, iv z94, iv b0, iv b1, .unset, .unset, .unset, .unset, .unset] [(.int (1 : Int32))]))) (fun t k => XS.goto X41.here hx rfl (pc0 := 182) (pc' := 202) rfl (hb hby at_182) (by decide) (by decide) k) ?_
          refine own_go (B := (T41.setTop (mkF m 204 #[iv p0, iv p1, iv p2, .val (.double d1), .second, .val (.double d2), .second, .val (.double d3), .second, .val (.double d4), .second, .val (.double d5), .second, .val (.double d6), .second, iv z44, rv a7, rv a22, iv z94, iv b0, iv b1, iv (1 : Int32), .unset, .unset, .unset, .unset] []))) (fun t k => XS.istore X41.here hx rfl (hb hby at_202) rfl (l' := #[iv p0, iv p1, iv p2, .val (.double d1), .second, .val (.double d2), .second, .val (.double d3), .second, .val (.double d4), .second, .val (.double d5), .second, .val (.double d6), .second, iv z44, rv a7, rv a22, iv z94, iv b0, iv b1, iv (1 : Int32), .unset, .unset, .unset, .unset]) rfl k) ?_
          exact J204 _ (by rw [own_okk, if_pos hc170, if_pos hc178])
    refine own_go (B := (T41.setTop (mkF m 133 #[iv p0, iv p1, iv p2, .val (.double d1), .second, .val (.double d2), .second, .val (.double d3), .second, .val (.double d4), .second, .val (.double d5), .second, .val (.double d6), .second, iv z44, rv a7, rv a22, iv z94, iv b0, .unset, .unset, .unset, .unset, .unset, .unset] [(.int (1 : Int32)), (.int z44)]))) (fun t k => own_iconst (v := (1 : Int32)) X41.here hx rfl (hb hby at_132) (by decide) k) ?_
    refine own_icmp X41 hx (hb hby at_133) (pc' := 152) (pn := 136) (by decide) (by decide) rfl (fun (hc133 : ¬ (1 : Int32) < z44) => ?_) (fun (hc133 : (1 : Int32) < z44) => ?_)
    · refine own_go (B := (T41.setTop (mkF m 154 #[iv p0, iv p1, iv p2, .val (.double d1), .second, .val (.double d2), .second, .val (.double d3), .second, .val (.double d4), .second, .val (.double d5), .second, .val (.double d6), .second, iv z44, rv a7, rv a22, iv z94, iv b0, .unset, .unset, .unset, .unset, .unset, .unset] [(.double d2)]))) (fun t k => XS.dload X41.here hx rfl (hb hby at_152) rfl k) ?_
      refine own_go (B := (T41.setTop (mkF m 156 #[iv p0, iv p1, iv p2, .val (.double d1), .second, .val (.double d2), .second, .val (.double d3), .second, .val (.double d4), .second, .val (.double d5), .second, .val (.double d6), .second, iv z44, rv a7, rv a22, iv z94, iv b0, .unset, .unset, .unset, .unset, .unset, .unset] [(.double d5), (.double d2)]))) (fun t k => XS.dload X41.here hx rfl (hb hby at_154) rfl k) ?_
      refine own_go (B := (T41.setTop (mkF m 157 #[iv p0, iv p1, iv p2, .val (.double d1), .second, .val (.double d2), .second, .val (.double d3), .second, .val (.double d4), .second, .val (.double d5), .second, .val (.double d6), .second, iv z44, rv a7, rv a22, iv z94, iv b0, .unset, .unset, .unset, .unset, .unset, .unset] [(.int (own_c d2 d5))]))) (fun t k => XS.dcmpS (x := d2) (y := d5) (v := (own_c d2 d5)) X41.here hx rfl (hb hby at_156) rfl rfl k) ?_
      refine own_if X41 hx (hb hby at_157) (pc' := 164) (pn := 160) (by decide) (by decide) rfl (fun (hc157 : (own_c d2 d5) < (0 : Int32)) => ?_) (fun (hc157 : ¬ (own_c d2 d5) < (0 : Int32)) => ?_)
      · refine own_go (B := (T41.setTop (mkF m 165 #[iv p0, iv p1, iv p2, .val (.double d1), .second, .val (.double d2), .second, .val (.double d3), .second, .val (.double d4), .second, .val (.double d5), .second, .val (.double d6), .second, iv z44, rv a7, rv a22, iv z94, iv b0, .unset, .unset, .unset, .unset, .unset, .unset] [(.int (0 : Int32))]))) (fun t k => own_iconst (v := (0 : Int32)) X41.here hx rfl (hb hby at_164) (by decide) k) ?_
        refine own_go (B := (T41.setTop (mkF m 167 #[iv p0, iv p1, iv p2, .val (.double d1), .second, .val (.double d2), .second, .val (.double d3), .second, .val (.double d4), .second, .val (.double d5), .second, .val (.double d6), .second, iv z44, rv a7, rv a22, iv z94, iv b0, iv (0 : Int32), .unset, .unset, .unset, .unset, .unset] []))) (fun t k => XS.istore X41.here hx rfl (hb hby at_165) rfl (l' := #[iv p0, iv p1, iv p2, .val (.double d1), .second, .val (.double d2), .second, .val (.double d3), .second, .val (.double d4), .second, .val (.double d5), .second, .val (.double d6), .second, iv z44, rv a7, rv a22, iv z94, iv b0, iv (0 : Int32), .unset, .unset, .unset, .unset, .unset]) rfl k) ?_
        exact J167 _ (by rw [own_okk, if_neg hc133, if_pos hc157])
      · refine own_go (B := (T41.setTop (mkF m 161 #[iv p0, iv p1, iv p2, .val (.double d1), .second, .val (.double d2), .second, .val (.double d3), .second, .val (.double d4), .second, .val (.double d5), .second, .val (.double d6), .second, iv z44, rv a7, rv a22, iv z94, iv b0, .unset, .unset, .unset, .unset, .unset, .unset] [(.int (1 : Int32))]))) (fun t k => own_iconst (v := (1 : Int32)) X41.here hx rfl (hb hby at_160) (by decide) k) ?_
        refine own_go (B := (T41.setTop (mkF m 165 #[iv p0, iv p1, iv p2, .val (.double d1), .second, .val (.double d2), .second, .val (.double d3), .second, .val (.double d4), .second, .val (.double d5), .second, .val (.double d6), .second, iv z44, rv a7, rv a22, iv z94, iv b0, .unset, .unset, .unset, .unset, .unset, .unset] [(.int (1 : Int32))]))) (fun t k => XS.goto X41.here hx rfl (pc0 := 161) (pc' := 165) rfl (hb hby at_161) (by decide) (by decide) k) ?_
        refine own_go (B := (T41.setTop (mkF m 167 #[iv p0, iv p1, iv p2, .val (.double d1), .second, .val (.double d2), .second, .val (.double d3), .second, .val (.double d4), .second, .val (.double d5), .second, .val (.double d6), .second, iv z44, rv a7, rv a22, iv z94, iv b0, iv (1 : Int32), .unset, .unset, .unset, .unset, .unset] []))) (fun t k => XS.istore X41.here hx rfl (hb hby at_165) rfl (l' := #[iv p0, iv p1, iv p2, .val (.double d1), .second, .val (.double d2), .second, .val (.double d3), .second, .val (.double d4), .second, .val (.double d5), .second, .val (.double d6), .second, iv z44, rv a7, rv a22, iv z94, iv b0, iv (1 : Int32), .unset, .unset, .unset, .unset, .unset]) rfl k) ?_
        exact J167 _ (by rw [own_okk, if_neg hc133, if_neg hc157])
    · refine own_go (B := (T41.setTop (mkF m 138 #[iv p0, iv p1, iv p2, .val (.double d1), .second, .val (.double d2), .second, .val (.double d3), .second, .val (.double d4), .second, .val (.double d5), .second, .val (.double d6), .second, iv z44, rv a7, rv a22, iv z94, iv b0, .unset, .unset, .unset, .unset, .unset, .unset] [(.double d2)]))) (fun t k => XS.dload X41.here hx rfl (hb hby at_136) rfl k) ?_
      refine own_go (B := (T41.setTop (mkF m 140 #[iv p0, iv p1, iv p2, .val (.double d1), .second, .val (.double d2), .second, .val (.double d3), .second, .val (.double d4), .second, .val (.double d5), .second, .val (.double d6), .second, iv z44, rv a7, rv a22, iv z94, iv b0, .unset, .unset, .unset, .unset, .unset, .unset] [(.double d5), (.double d2)]))) (fun t k => XS.dload X41.here hx rfl (hb hby at_138) rfl k) ?_
      refine own_go (B := (T41.setTop (mkF m 141 #[iv p0, iv p1, iv p2, .val (.double d1), .second, .val (.double d2), .second, .val (.double d3), .second, .val (.double d4), .second, .val (.double d5), .second, .val (.double d6), .second, iv z44, rv a7, rv a22, iv z94, iv b0, .unset, .unset, .unset, .unset, .unset, .unset] [(.int (own_c d2 d5))]))) (fun t k => XS.dcmpS (x := d2) (y := d5) (v := (own_c d2 d5)) X41.here hx rfl (hb hby at_140) rfl rfl k) ?_
      refine own_if X41 hx (hb hby at_141) (pc' := 148) (pn := 144) (by decide) (by decide) rfl (fun (hc141 : ¬ (own_c d2 d5) = (0 : Int32)) => ?_) (fun (hc141 : (own_c d2 d5) = (0 : Int32)) => ?_)
      · refine own_go (B := (T41.setTop (mkF m 149 #[iv p0, iv p1, iv p2, .val (.double d1), .second, .val (.double d2), .second, .val (.double d3), .second, .val (.double d4), .second, .val (.double d5), .second, .val (.double d6), .second, iv z44, rv a7, rv a22, iv z94, iv b0, .unset, .unset, .unset, .unset, .unset, .unset] [(.int (0 : Int32))]))) (fun t k => own_iconst (v := (0 : Int32)) X41.here hx rfl (hb hby at_148) (by decide) k) ?_
        refine own_go (B := (T41.setTop (mkF m 165 #[iv p0, iv p1, iv p2, .val (.double d1), .second, .val (.double d2), .second, .val (.double d3), .second, .val (.double d4), .second, .val (.double d5), .second, .val (.double d6), .second, iv z44, rv a7, rv a22, iv z94, iv b0, .unset, .unset, .unset, .unset, .unset, .unset] [(.int (0 : Int32))]))) (fun t k => XS.goto X41.here hx rfl (pc0 := 149) (pc' := 165) rfl (hb hby at_149) (by decide) (by decide) k) ?_
        refine own_go (B := (T41.setTop (mkF m 167 #[iv p0, iv p1, iv p2, .val (.double d1), .second, .val (.double d2), .second, .val (.double d3), .second, .val (.double d4), .second, .val (.double d5), .second, .val (.double d6), .second, iv z44, rv a7, rv a22, iv z94, iv b0, iv (0 : Int32), .unset, .unset, .unset, .unset, .unset] []))) (fun t k => XS.istore X41.here hx rfl (hb hby at_165) rfl (l' := #[iv p0, iv p1, iv p2, .val (.double d1), .second, .val (.double d2), .second, .val (.double d3), .second, .val (.double d4), .second, .val (.double d5), .second, .val (.double d6), .second, iv z44, rv a7, rv a22, iv z94, iv b0, iv (0 : Int32), .unset, .unset, .unset, .unset, .unset]) rfl k) ?_
        exact J167 _ (by rw [own_okk, if_pos hc133, if_neg hc141])
      · refine own_go (B := (T41.setTop (mkF m 145 #[iv p0, iv p1, iv p2, .val (.double d1), .second, .val (.double d2), .second, .val (.double d3), .second, .val (.double d4), .second, .val (.double d5), .second, .val (.double d6), .second, iv z44, rv a7, rv a22, iv z94, iv b0, .unset, .unset, .unset, .unset, .unset, .unset] [(.int (1 : Int32))]))) (fun t k => own_iconst (v := (1 : Int32)) X41.here hx rfl (hb hby at_144) (by decide) k) ?_
        refine own_go (B := (T41.setTop (mkF m 165 #[iv p0, iv p1, iv p2, .val (.double d1), .second, .val (.double d2), .second, .val (.double d3), .second, .val (.double d4), .second, .val (.double d5), .second, .val (.double d6), .second, iv z44, rv a7, rv a22, iv z94, iv b0, .unset, .unset, .unset, .unset, .unset, .unset] [(.int (1 : Int32))]))) (fun t k => XS.goto X41.here hx rfl (pc0 := 145) (pc' := 165) rfl (hb hby at_145) (by decide) (by decide) k) ?_
        refine own_go (B := (T41.setTop (mkF m 167 #[iv p0, iv p1, iv p2, .val (.double d1), .second, .val (.double d2), .second, .val (.double d3), .second, .val (.double d4), .second, .val (.double d5), .second, .val (.double d6), .second, iv z44, rv a7, rv a22, iv z94, iv b0, iv (1 : Int32), .unset, .unset, .unset, .unset, .unset] []))) (fun t k => XS.istore X41.here hx rfl (hb hby at_165) rfl (l' := #[iv p0, iv p1, iv p2, .val (.double d1), .second, .val (.double d2), .second, .val (.double d3), .second, .val (.double d4), .second, .val (.double d5), .second, .val (.double d6), .second, iv z44, rv a7, rv a22, iv z94, iv b0, iv (1 : Int32), .unset, .unset, .unset, .unset, .unset]) rfl k) ?_
        exact J167 _ (by rw [own_okk, if_pos hc133, if_pos hc141])
  refine own_go (B := (T41.setTop (mkF m 98 #[iv p0, iv p1, iv p2, .val (.double d1), .second, .val (.double d2), .second, .val (.double d3), .second, .val (.double d4), .second, .val (.double d5), .second, .val (.double d6), .second, iv z44, rv a7, rv a22, iv z94, .unset, .unset, .unset, .unset, .unset, .unset, .unset] [(.int z44)]))) (fun t k => XS.iload X41.here hx rfl (hb hby at_96) rfl k) ?_
  refine own_if X41 hx (hb hby at_98) (pc' := 116) (pn := 101) (by decide) (by decide) rfl (fun (hc98 : ¬ (0 : Int32) < z44) => ?_) (fun (hc98 : (0 : Int32) < z44) => ?_)
  · refine own_go (B := (T41.setTop (mkF m 117 #[iv p0, iv p1, iv p2, .val (.double d1), .second, .val (.double d2), .second, .val (.double d3), .second, .val (.double d4), .second, .val (.double d5), .second, .val (.double d6), .second, iv z44, rv a7, rv a22, iv z94, .unset, .unset, .unset, .unset, .unset, .unset, .unset] [(.double d1)]))) (fun t k => XS.dloadN X41.here hx rfl (hb hby at_116) rfl k) ?_
    refine own_go (B := (T41.setTop (mkF m 119 #[iv p0, iv p1, iv p2, .val (.double d1), .second, .val (.double d2), .second, .val (.double d3), .second, .val (.double d4), .second, .val (.double d5), .second, .val (.double d6), .second, iv z44, rv a7, rv a22, iv z94, .unset, .unset, .unset, .unset, .unset, .unset, .unset] [(.double d4), (.double d1)]))) (fun t k => XS.dload X41.here hx rfl (hb hby at_117) rfl k) ?_
    refine own_go (B := (T41.setTop (mkF m 120 #[iv p0, iv p1, iv p2, .val (.double d1), .second, .val (.double d2), .second, .val (.double d3), .second, .val (.double d4), .second, .val (.double d5), .second, .val (.double d6), .second, iv z44, rv a7, rv a22, iv z94, .unset, .unset, .unset, .unset, .unset, .unset, .unset] [(.int (own_c d1 d4))]))) (fun t k => XS.dcmpS (x := d1) (y := d4) (v := (own_c d1 d4)) X41.here hx rfl (hb hby at_119) rfl rfl k) ?_
    refine own_if X41 hx (hb hby at_120) (pc' := 127) (pn := 123) (by decide) (by decide) rfl (fun (hc120 : (own_c d1 d4) < (0 : Int32)) => ?_) (fun (hc120 : ¬ (own_c d1 d4) < (0 : Int32)) => ?_)
    · refine own_go (B := (T41.setTop (mkF m 128 #[iv p0, iv p1, iv p2, .val (.double d1), .second, .val (.double d2), .second, .val (.double d3), .second, .val (.double d4), .second, .val (.double d5), .second, .val (.double d6), .second, iv z44, rv a7, rv a22, iv z94, .unset, .unset, .unset, .unset, .unset, .unset, .unset] [(.int (0 : Int32))]))) (fun t k => own_iconst (v := (0 : Int32)) X41.here hx rfl (hb hby at_127) (by decide) k) ?_
      refine own_go (B := (T41.setTop (mkF m 130 #[iv p0, iv p1, iv p2, .val (.double d1), .second, .val (.double d2), .second, .val (.double d3), .second, .val (.double d4), .second, .val (.double d5), .second, .val (.double d6), .second, iv z44, rv a7, rv a22, iv z94, iv (0 : Int32), .unset, .unset, .unset, .unset, .unset, .unset] []))) (fun t k => XS.istore X41.here hx rfl (hb hby at_128) rfl (l' := #[iv p0, iv p1, iv p2, .val (.double d1), .second, .val (.double d2), .second, .val (.double d3), .second, .val (.double d4), .second, .val (.double d5), .second, .val (.double d6), .second, iv z44, rv a7, rv a22, iv z94, iv (0 : Int32), .unset, .unset, .unset, .unset, .unset, .unset]) rfl k) ?_
      exact J130 _ (by rw [own_okk, if_neg hc98, if_pos hc120])
    · refine own_go (B := (T41.setTop (mkF m 124 #[iv p0, iv p1, iv p2, .val (.double d1), .second, .val (.double d2), .second, .val (.double d3), .second, .val (.double d4), .second, .val (.double d5), .second, .val (.double d6), .second, iv z44, rv a7, rv a22, iv z94, .unset, .unset, .unset, .unset, .unset, .unset, .unset] [(.int (1 : Int32))]))) (fun t k => own_iconst (v := (1 : Int32)) X41.here hx rfl (hb hby at_123) (by decide) k) ?_
      refine own_go (B := (T41.setTop (mkF m 128 #[iv p0, iv p1, iv p2, .val (.double d1), .second, .val (.double d2), .second, .val (.double d3), .second, .val (.double d4), .second, .val (.double d5), .second, .val (.double d6), .second, iv z44, rv a7, rv a22, iv z94, .unset, .unset, .unset, .unset, .unset, .unset, .unset] [(.int (1 : Int32))]))) (fun t k => XS.goto X41.here hx rfl (pc0 := 124) (pc' := 128) rfl (hb hby at_124) (by decide) (by decide) k) ?_
      refine own_go (B := (T41.setTop (mkF m 130 #[iv p0, iv p1, iv p2, .val (.double d1), .second, .val (.double d2), .second, .val (.double d3), .second, .val (.double d4), .second, .val (.double d5), .second, .val (.double d6), .second, iv z44, rv a7, rv a22, iv z94, iv (1 : Int32), .unset, .unset, .unset, .unset, .unset, .unset] []))) (fun t k => XS.istore X41.here hx rfl (hb hby at_128) rfl (l' := #[iv p0, iv p1, iv p2, .val (.double d1), .second, .val (.double d2), .second, .val (.double d3), .second, .val (.double d4), .second, .val (.double d5), .second, .val (.double d6), .second, iv z44, rv a7, rv a22, iv z94, iv (1 : Int32), .unset, .unset, .unset, .unset, .unset, .unset]) rfl k) ?_
      exact J130 _ (by rw [own_okk, if_neg hc98, if_neg hc120])
  · refine own_go (B := (T41.setTop (mkF m 102 #[iv p0, iv p1, iv p2, .val (.double d1), .second, .val (.double d2), .second, .val (.double d3), .second, .val (.double d4), .second, .val (.double d5), .second, .val (.double d6), .second, iv z44, rv a7, rv a22, iv z94, .unset, .unset, .unset, .unset, .unset, .unset, .unset] [(.double d1)]))) (fun t k => XS.dloadN X41.here hx rfl (hb hby at_101) rfl k) ?_
    refine own_go (B := (T41.setTop (mkF m 104 #[iv p0, iv p1, iv p2, .val (.double d1), .second, .val (.double d2), .second, .val (.double d3), .second, .val (.double d4), .second, .val (.double d5), .second, .val (.double d6), .second, iv z44, rv a7, rv a22, iv z94, .unset, .unset, .unset, .unset, .unset, .unset, .unset] [(.double d4), (.double d1)]))) (fun t k => XS.dload X41.here hx rfl (hb hby at_102) rfl k) ?_
    refine own_go (B := (T41.setTop (mkF m 105 #[iv p0, iv p1, iv p2, .val (.double d1), .second, .val (.double d2), .second, .val (.double d3), .second, .val (.double d4), .second, .val (.double d5), .second, .val (.double d6), .second, iv z44, rv a7, rv a22, iv z94, .unset, .unset, .unset, .unset, .unset, .unset, .unset] [(.int (own_c d1 d4))]))) (fun t k => XS.dcmpS (x := d1) (y := d4) (v := (own_c d1 d4)) X41.here hx rfl (hb hby at_104) rfl rfl k) ?_
    refine own_if X41 hx (hb hby at_105) (pc' := 112) (pn := 108) (by decide) (by decide) rfl (fun (hc105 : ¬ (own_c d1 d4) = (0 : Int32)) => ?_) (fun (hc105 : (own_c d1 d4) = (0 : Int32)) => ?_)
    · refine own_go (B := (T41.setTop (mkF m 113 #[iv p0, iv p1, iv p2, .val (.double d1), .second, .val (.double d2), .second, .val (.double d3), .second, .val (.double d4), .second, .val (.double d5), .second, .val (.double d6), .second, iv z44, rv a7, rv a22, iv z94, .unset, .unset, .unset, .unset, .unset, .unset, .unset] [(.int (0 : Int32))]))) (fun t k => own_iconst (v := (0 : Int32)) X41.here hx rfl (hb hby at_112) (by decide) k) ?_
      refine own_go (B := (T41.setTop (mkF m 128 #[iv p0, iv p1, iv p2, .val (.double d1), .second, .val (.double d2), .second, .val (.double d3), .second, .val (.double d4), .second, .val (.double d5), .second, .val (.double d6), .second, iv z44, rv a7, rv a22, iv z94, .unset, .unset, .unset, .unset, .unset, .unset, .unset] [(.int (0 : Int32))]))) (fun t k => XS.goto X41.here hx rfl (pc0 := 113) (pc' := 128) rfl (hb hby at_113) (by decide) (by decide) k) ?_
      refine own_go (B := (T41.setTop (mkF m 130 #[iv p0, iv p1, iv p2, .val (.double d1), .second, .val (.double d2), .second, .val (.double d3), .second, .val (.double d4), .second, .val (.double d5), .second, .val (.double d6), .second, iv z44, rv a7, rv a22, iv z94, iv (0 : Int32), .unset, .unset, .unset, .unset, .unset, .unset] []))) (fun t k => XS.istore X41.here hx rfl (hb hby at_128) rfl (l' := #[iv p0, iv p1, iv p2, .val (.double d1), .second, .val (.double d2), .second, .val (.double d3), .second, .val (.double d4), .second, .val (.double d5), .second, .val (.double d6), .second, iv z44, rv a7, rv a22, iv z94, iv (0 : Int32), .unset, .unset, .unset, .unset, .unset, .unset]) rfl k) ?_
      exact J130 _ (by rw [own_okk, if_pos hc98, if_neg hc105])
    · refine own_go (B := (T41.setTop (mkF m 109 #[iv p0, iv p1, iv p2, .val (.double d1), .second, .val (.double d2), .second, .val (.double d3), .second, .val (.double d4), .second, .val (.double d5), .second, .val (.double d6), .second, iv z44, rv a7, rv a22, iv z94, .unset, .unset, .unset, .unset, .unset, .unset, .unset] [(.int (1 : Int32))]))) (fun t k => own_iconst (v := (1 : Int32)) X41.here hx rfl (hb hby at_108) (by decide) k) ?_
      refine own_go (B := (T41.setTop (mkF m 128 #[iv p0, iv p1, iv p2, .val (.double d1), .second, .val (.double d2), .second, .val (.double d3), .second, .val (.double d4), .second, .val (.double d5), .second, .val (.double d6), .second, iv z44, rv a7, rv a22, iv z94, .unset, .unset, .unset, .unset, .unset, .unset, .unset] [(.int (1 : Int32))]))) (fun t k => XS.goto X41.here hx rfl (pc0 := 109) (pc' := 128) rfl (hb hby at_109) (by decide) (by decide) k) ?_
      refine own_go (B := (T41.setTop (mkF m 130 #[iv p0, iv p1, iv p2, .val (.double d1), .second, .val (.double d2), .second, .val (.double d3), .second, .val (.double d4), .second, .val (.double d5), .second, .val (.double d6), .second, iv z44, rv a7, rv a22, iv z94, iv (1 : Int32), .unset, .unset, .unset, .unset, .unset, .unset] []))) (fun t k => XS.istore X41.here hx rfl (hb hby at_128) rfl (l' := #[iv p0, iv p1, iv p2, .val (.double d1), .second, .val (.double d2), .second, .val (.double d3), .second, .val (.double d4), .second, .val (.double d5), .second, .val (.double d6), .second, iv z44, rv a7, rv a22, iv z94, iv (1 : Int32), .unset, .unset, .unset, .unset, .unset, .unset]) rfl k) ?_
      exact J130 _ (by rw [own_okk, if_pos hc98, if_pos hc105])

set_option maxRecDepth 65536 in
set_option maxHeartbeats 40000000 in
theorem own_comes {Post : Tables → Env → Array Value → State → Outcome → State → Prop} (hpost : ∀ tb e args s v u, (limb_1_1.after args s (.returned v) u = true ∧ limb_1_2.after args s (.returned v) u = true ∧ True) → FrameEnd s (.returned v) u (Jvm.fieldLocs frame_1_writes args s ++ Jvm.arrayLocs frame_1_arrays args s ++ Jvm.staticLocs frame_1_statics s) 16 128 → Post tb e args s (.returned v) u) :
    ArmFor flags0 classFile x code maxLocals ret World_1 tables_1 room_1 Calls_1 rest_1 Pre_1 Post := by
  intro l hfl _ _ p e ha hc hk s m args below hf hA hF happ hP
  obtain ⟨hcalls, hrest, hpre⟩ := hP
  obtain ⟨-, -, -, hnamed, -, -, -, hat⟩ := (Spec.applies_iff hf).mp happ
  obtain ⟨hg, hn⟩ := and_e (Cond.before_iff.mp (show (Jvm.Cond.and given_1 narrow_1).before args s = true from hpre))
  obtain ⟨g0, r0⟩ := and_e hg
  obtain ⟨g1, r1⟩ := and_e r0
  obtain ⟨g2, r2⟩ := and_e r1
  obtain ⟨w0, w1, w2, rfl⟩ : ∃ w0 w1 w2 : Value, args = #[w0, w1, w2] := by
    have hs : args.size = 3 := by simpa [Cond.value, given_1] using g0
    obtain ⟨L⟩ := args
    match L, hs with
    | [w0, w1, w2], _ => exact ⟨w0, w1, w2, rfl⟩
  have hw := fun d (hd : d ∈ tables_1) => atoms_spec (ws := Jvm.Cond.code x code maxLocals ret :: tables_1) hat d (List.mem_cons_of_mem _ hd)
  have hfit : Fit s := fun {y c} hc i hi => by
    obtain ⟨ha, rfl⟩ := Array.getElem?_eq_some_iff.mp hc
    have q := List.all_eq_true.mp ((Array.all_eq_true_iff_forall_mem.mp hF) _ (Array.getElem_mem ha)) i (List.mem_range.mpr hi)
    simpa [Array.getElem?_eq_getElem hi] using q
  obtain ⟨i0, e0⟩ := is_v g1
  obtain rfl : w0 = (.int i0) := Option.some.inj e0
  obtain ⟨i1, e1⟩ := is_v g2
  obtain rfl : w1 = (.int i1) := Option.some.inj e1
  obtain ⟨i2, e2⟩ := is_v r2
  obtain rfl : w2 = (.int i2) := Option.some.inj e2
  obtain ⟨n, o, h1, h2, h3, _, L, rfl, ⟨rfl, N⟩, hq⟩ := own_law l s _ hw tables_1 i0 i1 i2 s.heap s.heap.size (Nat.le_refl _) p e ha hc hk s m _ below hf ((Spec.applies_iff_loose hf).mp happ).1 ⟨rfl, State.Warmed39.refl s, rfl⟩ trivial
  refine ⟨n, _, h1, h2, h3, hpost _ _ _ _ _ _ ⟨Cond.after_iff.mpr rfl, Cond.after_iff.mpr (eq_i res_at (Term.int_eval (1)) rfl), trivial⟩ ⟨hq.1, hq.2.1, (hq.2.2.sift fun y hy => Or.inr (N y hy)).mono (by decide) (by decide)⟩⟩
theorem main_1_1 : Claimed_1_1 := own_comes fun _ _ _ _ _ _ h hF => ⟨h.1, hF⟩
theorem main_1_2 : Claimed_1_2 := own_comes fun _ _ _ _ _ _ h hF => ⟨h.2.1, hF⟩
end Jvm.Pilot.@@N@@
namespace Jvm.Pilot.@@N@@
open Jvm Jvm.ClassFile Sem Op Lib Jvm.Free Jvm.Stand Jvm.Pilot.@@N@@.Jvm.D
/-! MADE BY PROGRAM (witnessworld.py) out of the Statement's table words and the real class files: 9 classes; the members and pool entries that the words name. The judged class is class 1, her method 2. -/
namespace start1
open Jvm.ClassFile
def u (s : String) : CpInfo := .utf8 (stringToUtf16 s)
/-- a pool by its gaps: so many unusable entries, then the entry; so many at the end -/
def gap : Nat → List CpInfo → List CpInfo
  | 0, r => r
  | n + 1, r => .unusable :: gap n r
def poolList (es : List (Nat × CpInfo)) (last : Nat) : List CpInfo := es.foldr (fun e r => gap e.1 (e.2 :: r)) (gap last [])
def pool (es : List (Nat × CpInfo)) (last : Nat) : Array CpInfo := ⟨poolList es last⟩
def fileOf (pool : Array CpInfo) (this : Nat) (attrs : Array Attribute := #[]) (ms : Array MethodInfo := #[]) (fl : Nat := 33) (sup : Nat := 0) (ifs : Array Nat := #[]) (fds : Array FieldInfo := #[]) : ClassFile where
  minorVersion := 0
  majorVersion := 65
  constantPool := pool
  accessFlags := fl
  thisClass := this
  superClass := sup
  interfaces := ifs
  fields := fds
  methods := ms
  attributes := attrs
def plain (name : String) (sup : Option ClassId) : Class where
  name := name
  kind := .ordinary
  loader := none
  accessFlags := 33
  super := sup
  interfaces := #[]
  cf := none
  fields := #[]
  methods := #[]
  instanceTypes := #[]
  staticTypes := #[]
  resolved := #[]
  callSites := []
  init := .initialized
  statics := none
  mirror := none

def pool0 : Array CpInfo := pool [(5, u "<init>"), (0, u "()V"), (1, .class_ 10), (1, u "java/lang/Object")] 113

def k0m0 : Method := { name := "<init>", desc := "()V", sig := { parameters := [], returnType := none }, accessFlags := 1, code := none }
/-- java/lang/Object -/
def k0 : Class := { plain "java/lang/Object" none with
  accessFlags := 33
  interfaces := #[]
  cf := some (fileOf pool0 8 #[] #[{ accessFlags := 1, nameIndex := 5, descriptorIndex := 6, attributes := #[] }] 33 0 #[] #[])
  fields := #[]
  methods := #[k0m0]
  instanceTypes := #[]
  staticTypes := #[]
  resolved := Array.replicate 124 none
  statics := none }

def pool1 : Array CpInfo := pool [(2, .class_ 4), (1, u "java/lang/Object"), (0, u "<init>"), (0, u "()V"), (0, .methodref 8 9), (0, .class_ 10), (0, .nameAndType 11 12), (0, u "com/example/bindweave/bindweave/select/DominanceDominatesPinLaw"), (0, u "val"), (0, u "(II)D"), (0, .methodref 14 15), (0, .class_ 16), (0, .nameAndType 17 18), (0, u "com/example/bindweave/bindweave/select/Dominance"), (0, u "dominates"), (0, u "([D[DI)Z"), (3, u "law"), (0, u "(III)Z")] 4

def k1m0 : Method := { name := "<init>", desc := "()V", sig := { parameters := [], returnType := none }, accessFlags := 2, code := none }
def k1c1 : Code := { maxStack := 3, maxLocals := 5, code := method_2_code, exceptionTable := #[], attributes := #[] }
def k1m1 : Method := { name := "val", desc := "(II)D", sig := { parameters := [.int, .int], returnType := some .double }, accessFlags := 10, code := some k1c1 }
def k1c2 : Code := { maxStack := 5, maxLocals := 26, code := code, exceptionTable := #[], attributes := #[] }
def k1m2 : Method := { name := "law", desc := "(III)Z", sig := { parameters := [.int, .int, .int], returnType := some .boolean }, accessFlags := 9, code := some k1c2 }
/-- com/example/bindweave/bindweave/select/DominanceDominatesPinLaw -/
def k1 : Class := { plain "com/example/bindweave/bindweave/select/DominanceDominatesPinLaw" (some 0) with
  accessFlags := 49
  interfaces := #[]
  cf := some (fileOf pool1 8 #[] #[{ accessFlags := 2, nameIndex := 5, descriptorIndex := 6, attributes := #[] }, { accessFlags := 10, nameIndex := 11, descriptorIndex := 12, attributes := #[] }, { accessFlags := 9, nameIndex := 22, descriptorIndex := 23, attributes := #[] }] 49 2 #[] #[])
  fields := #[]
  methods := #[k1m0, k1m1, k1m2]
  instanceTypes := #[]
  staticTypes := #[]
  resolved := Array.replicate 28 none
  statics := none }

def pool2 : Array CpInfo := pool [(2, .class_ 4), (1, u "java/lang/Object"), (0, u "<init>"), (0, u "()V"), (20, .class_ 28), (0, u "com/example/bindweave/bindweave/select/Dominance$Window"), (9, u "dominates"), (15, .class_ 56), (1, u "com/example/bindweave/bindweave/select/Dominance"), (8, u "([D[DI)Z")] 43

def k2m0 : Method := { name := "<init>", desc := "()V", sig := { parameters := [], returnType := none }, accessFlags := 2, code := none }
def k2c1 : Code := { maxStack := 5, maxLocals := 5, code := prog_34_method_2_code, exceptionTable := #[], attributes := #[] }
def k2m1 : Method := { name := "dominates", desc := "([D[DI)Z", sig := { parameters := [(.array .double), (.array .double), .int], returnType := some .boolean }, accessFlags := 8, code := some k2c1 }
/-- com/example/bindweave/bindweave/select/Dominance -/
def k2 : Class := { plain "com/example/bindweave/bindweave/select/Dominance" (some 0) with
  accessFlags := 48
  interfaces := #[]
  cf := some (fileOf pool2 54 #[.nestMembers #[27]] #[{ accessFlags := 2, nameIndex := 5, descriptorIndex := 6, attributes := #[] }, { accessFlags := 8, nameIndex := 38, descriptorIndex := 65, attributes := #[] }] 48 2 #[] #[])
  fields := #[]
  methods := #[k2m0, k2m1]
  instanceTypes := #[]
  staticTypes := #[]
  resolved := Array.replicate 109 none
  statics := none }

def pool3 : Array CpInfo := pool [(1, u "java/lang/Cloneable"), (0, .class_ 1), (0, u "java/lang/Object"), (0, .class_ 3)] 3

/-- java/lang/Cloneable -/
def k3 : Class := { plain "java/lang/Cloneable" (some 0) with
  accessFlags := 1537
  interfaces := #[]
  cf := some (fileOf pool3 2 #[] #[] 1537 4 #[] #[])
  fields := #[]
  methods := #[]
  instanceTypes := #[]
  staticTypes := #[]
  resolved := Array.replicate 8 none
  statics := none }

def pool4 : Array CpInfo := pool [(1, u "java/io/Serializable"), (0, .class_ 1), (0, u "java/lang/Object"), (0, .class_ 3)] 3

/-- java/io/Serializable -/
def k4 : Class := { plain "java/io/Serializable" (some 0) with
  accessFlags := 1537
  interfaces := #[]
  cf := some (fileOf pool4 2 #[] #[] 1537 4 #[] #[])
  fields := #[]
  methods := #[]
  instanceTypes := #[]
  staticTypes := #[]
  resolved := Array.replicate 8 none
  statics := none }

/-- the primitive byte -/
def k5 : Class := { plain "byte" none with kind := .primitive 'B', accessFlags := 0x411 }
/-- [B -/
def k6 : Class := { plain "[B" (some 0) with kind := .array 5 .byte, interfaces := #[3, 4], accessFlags := 1041 }

/-- the primitive int -/
def k7 : Class := { plain "int" none with kind := .primitive 'I', accessFlags := 0x411 }
/-- [I -/
def k8 : Class := { plain "[I" (some 0) with kind := .array 7 .int, interfaces := #[3, 4], accessFlags := 1041 }
/-- the primitive double -/
def k9 : Class := { plain "double" none with kind := .primitive 'D', accessFlags := 0x411 }
/-- [D -/
def k10 : Class := { plain "[D" (some 0) with kind := .array 9 .double, interfaces := #[3, 4], accessFlags := 1041 }

def heap : Heap := #[]
def classes : Array Class := #[k0, k1, k2, k3, k4, k5, k6, k7, k8, k9, k10]
def interned : List (Array UInt16 × Addr) := []
def slotsUsed : Nat := 0
def theMethod : MethodId := ⟨1, 2⟩
def args0 : Array Value := #[.int 5, .int 300, .int 7]
def aboutOver (below : List Frame) : State where
  vm := { classes := classes, interned := interned.toArray }
  heap := heap
  slotsUsed := slotsUsed
  threads := #[{ frames := .invoking theMethod args0 :: below }]
def below0 : List Frame := [.native { method := ⟨0, 0⟩, args := #[] }]
def about1 : State := aboutOver below0
def p0 : Program := .bare "" "" ""
def e0 : Env := launch0.env 0 0 0
theorem w_frames : about1.frames = Frame.invoking theMethod args0 :: below0 := rfl
set_option maxRecDepth 65536 in
theorem w_args : argsFit about1.vm theMethod args0 = true := by decide +kernel
set_option maxRecDepth 65536 in
theorem w_heap : heapFits about1 = true := by decide +kernel
set_option maxRecDepth 65536 in
theorem w_runnable : about1.curStatus? = some .runnable := by decide +kernel
set_option maxRecDepth 65536 in
theorem w_alone : about1.alone = true := by decide +kernel
set_option maxRecDepth 65536 in
theorem w_named : about1.methodNamed? x = some theMethod := by decide +kernel
set_option maxRecDepth 65536 in
theorem w_hears : about1.hears theMethod below0 = true := by decide +kernel
set_option maxRecDepth 65536 in
theorem w_ripe : about1.ripe theMethod args0 below0 = true := by decide +kernel
theorem w_running : about1.status = .running := rfl
set_option maxRecDepth 65536 in
theorem w_room : about1.hasRoom e0.platform room_1 = true :=
  launch0.hasRoom_least _ room_1 (by decide +kernel) (by decide +kernel) (by decide +kernel) (by decide +kernel) (by decide +kernel) (by decide +kernel)
theorem allAtoms_all (ts : List Jvm.Cond) (a : Array Jvm.Value) (st : Jvm.State) : (allAtoms ts).before a st = ts.all (fun c => c.before a st) := by
  induction ts with
  | nil => rfl
  | cons c t ih =>
    show (Jvm.Cond.and c (allAtoms t)).before a st = _
    rw [Jvm.Cond.before_and, ih, List.all_cons]
def words1 : List Jvm.Cond := Jvm.Cond.code x code maxLocals ret :: tables_1
/-- a 'code' word, met by the world's own term for the bytes: nothing is compared byte by byte -/
theorem code_word {y : MethodName} {bytes : ByteArray} {mx : Nat} {rt : Option FieldType} {a : Array Value} {s : State} {m : MethodId} {meth : Method} {c : Code} (h1 : s.methodNamed? y = some m) (h2 : s.vm.method? m = some meth) (h3 : meth.code = some c) (h4 : c.code = bytes)
    (h5 : (c.maxLocals == mx && c.exceptionTable.isEmpty && decide (c.maxStack ≤ mostOperands) && decide (meth.sig.returnType = rt) && !meth.locks && decide (parseMethodDescriptor y.desc = some meth.sig)) = true) : (Jvm.Cond.code y bytes mx rt).before a s = true := by
  simp only [Bool.and_eq_true, beq_iff_eq, Bool.not_eq_true', decide_eq_true_eq] at h5
  obtain ⟨⟨⟨⟨⟨g1, g2⟩, g3⟩, g4⟩, g5⟩, g6⟩ := h5
  simp [Cond.before, Cond.holds, Cond.value, h1, h2, h3, h4, g1, g2, g3, g4, g5, g6]
def isCode : Jvm.Cond → Bool
  | .code _ _ _ _ => true
  | _ => false
theorem all_split {L : List Jvm.Cond} {P : Jvm.Cond → Bool} (h1 : L.all (fun c => isCode c || P c) = true) (h2 : ∀ c ∈ L.filter isCode, P c = true) : L.all P = true := by
  refine List.all_eq_true.mpr fun c hc => ?_
  have h := List.all_eq_true.mp h1 c hc
  rcases Bool.eq_false_or_eq_true (isCode c) with hi | hi
  · exact h2 c (List.mem_filter.mpr ⟨hc, hi⟩)
  · simpa [hi] using h
set_option maxRecDepth 65536 in
theorem w_c0 : (Jvm.Cond.code x code maxLocals ret).before args0 about1 = true := code_word (m := ⟨1, 2⟩) (meth := k1m2) (c := k1c2) (by decide +kernel) rfl rfl rfl (by decide +kernel)
set_option maxRecDepth 65536 in
theorem w_c1 : (Jvm.Cond.code ({ cls := "com/example/bindweave/bindweave/select/DominanceDominatesPinLaw", name := "val", desc := "(II)D" } : Jvm.MethodName) method_2_code (5 : Nat) (Option.some Jvm.ClassFile.FieldType.double)).before args0 about1 = true := code_word (m := ⟨1, 1⟩) (meth := k1m1) (c := k1c1) (by decide +kernel) rfl rfl rfl (by decide +kernel)
set_option maxRecDepth 65536 in
theorem w_c2 : (Jvm.Cond.code ({ cls := "com/example/bindweave/bindweave/select/Dominance", name := "dominates", desc := "([D[DI)Z" } : Jvm.MethodName) prog_34_method_2_code (5 : Nat) (Option.some Jvm.ClassFile.FieldType.boolean)).before args0 about1 = true := code_word (m := ⟨2, 1⟩) (meth := k2m1) (c := k2c1) (by decide +kernel) rfl rfl rfl (by decide +kernel)
def codes1 : List Jvm.Cond := [Jvm.Cond.code x code maxLocals ret, Jvm.Cond.code ({ cls := "com/example/bindweave/bindweave/select/DominanceDominatesPinLaw", name := "val", desc := "(II)D" } : Jvm.MethodName) method_2_code (5 : Nat) (Option.some Jvm.ClassFile.FieldType.double), Jvm.Cond.code ({ cls := "com/example/bindweave/bindweave/select/Dominance", name := "dominates", desc := "([D[DI)Z" } : Jvm.MethodName) prog_34_method_2_code (5 : Nat) (Option.some Jvm.ClassFile.FieldType.boolean)]
set_option maxRecDepth 65536 in
theorem codes_eq : words1.filter isCode = codes1 := rfl
theorem w_codes : ∀ c ∈ words1.filter isCode, c.before args0 about1 = true := by
  rw [codes_eq]
  intro c hc
  simp only [codes1, List.mem_cons, List.not_mem_nil, or_false] at hc
  rcases hc with rfl | rfl | rfl
  · exact w_c0
  · exact w_c1
  · exact w_c2
set_option maxRecDepth 65536 in
theorem w_t1 : words1.all (fun c => isCode c || c.before args0 about1) = true := by decide +kernel
theorem w_tables : (allAtoms (Jvm.Cond.code x code maxLocals ret :: tables_1)).before args0 about1 = true := by
  rw [allAtoms_all]
  show words1.all (fun c => c.before args0 about1) = true
  refine all_split ?_ w_codes
  rw [w_t1]
set_option maxRecDepth 65536 in
theorem w_case : (Jvm.Cond.and given_1 narrow_1).before args0 about1 = true := by decide +kernel
theorem w_applies : (headSpec (Jvm.Cond.code x code maxLocals ret :: tables_1) room_1).applies x e0.platform about1 = true :=
  (Spec.applies_iff w_frames).mpr ⟨w_running, w_runnable, w_alone, w_named, w_hears, w_ripe, w_room, w_tables⟩
theorem atStart : AtStart classFile x code maxLocals ret World_1 tables_1 room_1 Calls_1 rest_1 Pre_1 launch0 p0 e0 about1 theMethod args0 below0 :=
  ⟨lists_1, trivial, launch0.admits_env _ _ _, launch0.least_env, fairChoices_fair.cas, fairChoices_fair.clock, w_frames, w_args, w_heap, w_applies, trivial, trivial, w_case⟩
end start1
theorem witness_1 : WitnessClaimed_1 := ⟨start1.p0, start1.e0, start1.about1, start1.theMethod, start1.args0, start1.below0, start1.atStart⟩
end Jvm.Pilot.@@N@@
