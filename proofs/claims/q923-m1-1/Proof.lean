import JvmDerived
import JvmDerived.Pilot.@@N@@Statement
import JvmDerived.Pilot.@@N@@Code
set_option linter.unusedVariables false
set_option linter.unusedSimpArgs false
namespace Jvm.Pilot.@@N@@
open Jvm Jvm.ClassFile Sem Op Lib Jvm.Free Jvm.Stand Jvm.LawKit Jvm.RoadKit Bundle Jvm.Pilot.@@N@@.Jvm.D
/-! own layer: the walk goes forward; own_G S: from S the body ends as F says -/
def own_G (tb : Tables) (e : Env) (below : List Frame) (F : Outcome → State → Prop) (S : State) : Prop :=
  ∃ s₂ o, Steps tb e below S s₂ ∧ s₂.status = .running ∧ Ended s₂ below o ∧ F o s₂
theorem own_go {tb : Tables} {e : Env} {below : List Frame} {F : Outcome → State → Prop} {A B : State} (st : ∀ t, Steps tb e below B t → Steps tb e below A t) (h : own_G tb e below F B) : own_G tb e below F A := by
  obtain ⟨t, o, h1, h2⟩ := h
  exact ⟨t, o, st t h1, h2⟩
theorem own_tr {tb : Tables} {e : Env} {below : List Frame} {F : Outcome → State → Prop} {A B : State} (st : Steps tb e below A B) (h : own_G tb e below F B) : own_G tb e below F A := own_go (fun _ k => st.trans k) h
theorem own_b {n k : Nat} (h : Nat.ble n k = true) : n ≤ k := Nat.le_of_ble_eq_true h
def own_yes {α : Type} [LT α] : ClassFile.Cond → α → α → Prop
  | .eq, x, y => x = y
  | .ne, x, y => ¬ x = y
  | .lt, x, y => x < y
  | .ge, x, y => ¬ x < y
  | .gt, x, y => y < x
  | .le, x, y => ¬ y < x
def own_no {α : Type} [LT α] : ClassFile.Cond → α → α → Prop
  | .eq, x, y => ¬ x = y
  | .ne, x, y => x = y
  | .lt, x, y => ¬ x < y
  | .ge, x, y => x < y
  | .gt, x, y => ¬ y < x
  | .le, x, y => y < x
theorem own_hy {cd : ClassFile.Cond} {x y : Int32} (h : own_yes cd x y) : if_icmp.holds cd x y = true := by
  cases cd
  · exact (teq h).1
  · exact (feq h).2
  · exact (tlt h).1
  · exact (flt h).2.1
  · exact (tlt h).2.2.1
  · exact (flt h).2.2.2
theorem own_hn {cd : ClassFile.Cond} {x y : Int32} (h : own_no cd x y) : if_icmp.holds cd x y = false := by
  cases cd
  · exact (feq h).1
  · exact (teq h).2
  · exact (flt h).1
  · exact (tlt h).2.1
  · exact (flt h).2.2.1
  · exact (tlt h).2.2.2
theorem own_yn {cd : ClassFile.Cond} {x y : Int32} : own_yes cd x y ∨ own_no cd x y := by
  cases cd
  · exact Classical.em _
  · exact (Classical.em _).symm
  · exact Classical.em _
  · exact (Classical.em _).symm
  · exact Classical.em _
  · exact (Classical.em _).symm
theorem own_ynL {cd : ClassFile.Cond} {x y : Int64} : own_yes cd x y ∨ own_no cd x y := by
  cases cd
  · exact Classical.em _
  · exact (Classical.em _).symm
  · exact Classical.em _
  · exact (Classical.em _).symm
  · exact Classical.em _
  · exact (Classical.em _).symm
theorem own_hyL {cd : ClassFile.Cond} {x y : Int64} (h : own_yes cd x y) : ifCond.holds cd (lcmpW x y) = true := by
  rw [if0]
  refine own_hy ?_
  cases cd
  · exact (lw_eq x y).mpr h
  · exact fun q => h ((lw_eq x y).mp q)
  · exact (lw_lt x y).mpr h
  · exact fun q => h ((lw_lt x y).mp q)
  · exact (lw_gt x y).mpr h
  · exact fun q => h ((lw_gt x y).mp q)
theorem own_hnL {cd : ClassFile.Cond} {x y : Int64} (h : own_no cd x y) : ifCond.holds cd (lcmpW x y) = false := by
  rw [if0]
  refine own_hn ?_
  cases cd
  · exact fun q => h ((lw_eq x y).mp q)
  · exact (lw_eq x y).mpr h
  · exact fun q => h ((lw_lt x y).mp q)
  · exact (lw_lt x y).mpr h
  · exact fun q => h ((lw_gt x y).mp q)
  · exact (lw_gt x y).mpr h
section Own
variable {p : Program} {l : Launch} {e : Env} {R : Room} {s : State} {m : MethodId} {args : Array Value} {below : List Frame} {meth : Method} {c : Code} {T : State} {locs : List Loc} {cells slots : Nat} {F : Outcome → State → Prop}
theorem own_abs {n0 : Nat} (X : Stand p l e R s m args below meth c T locs cells slots) (N : Fr n0 locs) : ∃ L, Stand p l e R s m args below meth c T L cells slots ∧ Fr n0 L := ⟨locs, X, N⟩
theorem own_absC {n0 K K' : Nat} {L Lc : List Loc} {k n : Nat} (X : Stand p l e R s m args below meth c T L k n) (hl : L = locs ++ Lc) (hk : k = K) (hn : n = K') (N : Fr n0 locs) (N' : Fr n0 Lc) : ∃ L, Stand p l e R s m args below meth c T L K K' ∧ Fr n0 L := by
  subst hk hn
  exact ⟨L, X, by rw [hl]; exact Fr.app N N'⟩
theorem own_icmpY (X : Stand p l e R s m args below meth c T locs cells slots) (hx : p.tables.exec = Jvm.exec) {cd : ClassFile.Cond} {x y : Int32} {o : Int} {pc pc' : Nat} {Ls : Array Slot} {rest : List Value} (hd : decode c.code pc = .ok (.if_icmp cd o, 3)) (ho : 0 ≤ (pc : Int) + o) (hp : ((pc : Int) + o).toNat = pc')
    (hc : own_yes cd x y) (h1 : own_G p.tables e below F (T.setTop (mkF m pc' Ls rest))) : own_G p.tables e below F (T.setTop (mkF m pc Ls (.int y :: .int x :: rest))) :=
  own_go (fun _ k => XS.icmpYes X.here hx rfl (pc0 := pc) (pc' := pc') rfl hd rfl (own_hy hc) ho hp k) h1
theorem own_icmpN (X : Stand p l e R s m args below meth c T locs cells slots) (hx : p.tables.exec = Jvm.exec) {cd : ClassFile.Cond} {x y : Int32} {o : Int} {pc pn : Nat} {Ls : Array Slot} {rest : List Value} (hd : decode c.code pc = .ok (.if_icmp cd o, 3)) (hq : pc + 3 = pn)
    (hc : own_no cd x y) (h1 : own_G p.tables e below F (T.setTop (mkF m pn Ls rest))) : own_G p.tables e below F (T.setTop (mkF m pc Ls (.int y :: .int x :: rest))) := by
  subst hq
  exact own_go (fun _ k => XS.icmpNo X.here hx rfl hd rfl (own_hn hc) k) h1
theorem own_icmp (X : Stand p l e R s m args below meth c T locs cells slots) (hx : p.tables.exec = Jvm.exec) {cd : ClassFile.Cond} {x y : Int32} {o : Int} {pc pc' pn : Nat} {Ls : Array Slot} {rest : List Value} (hd : decode c.code pc = .ok (.if_icmp cd o, 3)) (ho : 0 ≤ (pc : Int) + o) (hp : ((pc : Int) + o).toNat = pc') (hq : pc + 3 = pn)
    (h1 : own_yes cd x y → own_G p.tables e below F (T.setTop (mkF m pc' Ls rest))) (h2 : own_no cd x y → own_G p.tables e below F (T.setTop (mkF m pn Ls rest))) : own_G p.tables e below F (T.setTop (mkF m pc Ls (.int y :: .int x :: rest))) :=
  own_yn.elim (fun q => own_icmpY X hx hd ho hp q (h1 q)) (fun q => own_icmpN X hx hd hq q (h2 q))
theorem own_ifY (X : Stand p l e R s m args below meth c T locs cells slots) (hx : p.tables.exec = Jvm.exec) {cd : ClassFile.Cond} {x : Int32} {o : Int} {pc pc' : Nat} {Ls : Array Slot} {rest : List Value} (hd : decode c.code pc = .ok (.ifCond cd o, 3)) (ho : 0 ≤ (pc : Int) + o) (hp : ((pc : Int) + o).toNat = pc')
    (hc : own_yes cd x 0) (h1 : own_G p.tables e below F (T.setTop (mkF m pc' Ls rest))) : own_G p.tables e below F (T.setTop (mkF m pc Ls (.int x :: rest))) :=
  own_go (fun _ k => XS.ifYes X.here hx rfl (pc0 := pc) (pc' := pc') rfl hd rfl ((if0 cd x).trans (own_hy hc)) ho hp k) h1
theorem own_ifN (X : Stand p l e R s m args below meth c T locs cells slots) (hx : p.tables.exec = Jvm.exec) {cd : ClassFile.Cond} {x : Int32} {o : Int} {pc pn : Nat} {Ls : Array Slot} {rest : List Value} (hd : decode c.code pc = .ok (.ifCond cd o, 3)) (hq : pc + 3 = pn)
    (hc : own_no cd x 0) (h1 : own_G p.tables e below F (T.setTop (mkF m pn Ls rest))) : own_G p.tables e below F (T.setTop (mkF m pc Ls (.int x :: rest))) := by
  subst hq
  exact own_go (fun _ k => XS.ifNo X.here hx rfl hd rfl ((if0 cd x).trans (own_hn hc)) k) h1
theorem own_if (X : Stand p l e R s m args below meth c T locs cells slots) (hx : p.tables.exec = Jvm.exec) {cd : ClassFile.Cond} {x : Int32} {o : Int} {pc pc' pn : Nat} {Ls : Array Slot} {rest : List Value} (hd : decode c.code pc = .ok (.ifCond cd o, 3)) (ho : 0 ≤ (pc : Int) + o) (hp : ((pc : Int) + o).toNat = pc') (hq : pc + 3 = pn)
    (h1 : own_yes cd x 0 → own_G p.tables e below F (T.setTop (mkF m pc' Ls rest))) (h2 : own_no cd x 0 → own_G p.tables e below F (T.setTop (mkF m pn Ls rest))) : own_G p.tables e below F (T.setTop (mkF m pc Ls (.int x :: rest))) :=
  own_yn.elim (fun q => own_ifY X hx hd ho hp q (h1 q)) (fun q => own_ifN X hx hd hq q (h2 q))
theorem own_lifY (X : Stand p l e R s m args below meth c T locs cells slots) (hx : p.tables.exec = Jvm.exec) {cd : ClassFile.Cond} {x y : Int64} {o : Int} {pc pc' : Nat} {Ls : Array Slot} {rest : List Value} (hd : decode c.code pc = .ok (.ifCond cd o, 3)) (ho : 0 ≤ (pc : Int) + o) (hp : ((pc : Int) + o).toNat = pc')
    (hc : own_yes cd x y) (h1 : own_G p.tables e below F (T.setTop (mkF m pc' Ls rest))) : own_G p.tables e below F (T.setTop (mkF m pc Ls (.int (lcmpW x y) :: rest))) :=
  own_go (fun _ k => XS.ifYes X.here hx rfl (pc0 := pc) (pc' := pc') rfl hd rfl (own_hyL hc) ho hp k) h1
theorem own_lifN (X : Stand p l e R s m args below meth c T locs cells slots) (hx : p.tables.exec = Jvm.exec) {cd : ClassFile.Cond} {x y : Int64} {o : Int} {pc pn : Nat} {Ls : Array Slot} {rest : List Value} (hd : decode c.code pc = .ok (.ifCond cd o, 3)) (hq : pc + 3 = pn)
    (hc : own_no cd x y) (h1 : own_G p.tables e below F (T.setTop (mkF m pn Ls rest))) : own_G p.tables e below F (T.setTop (mkF m pc Ls (.int (lcmpW x y) :: rest))) := by
  subst hq
  exact own_go (fun _ k => XS.ifNo X.here hx rfl hd rfl (own_hnL hc) k) h1
theorem own_lif (X : Stand p l e R s m args below meth c T locs cells slots) (hx : p.tables.exec = Jvm.exec) {cd : ClassFile.Cond} {x y : Int64} {o : Int} {pc pc' pn : Nat} {Ls : Array Slot} {rest : List Value} (hd : decode c.code pc = .ok (.ifCond cd o, 3)) (ho : 0 ≤ (pc : Int) + o) (hp : ((pc : Int) + o).toNat = pc') (hq : pc + 3 = pn)
    (h1 : own_yes cd x y → own_G p.tables e below F (T.setTop (mkF m pc' Ls rest))) (h2 : own_no cd x y → own_G p.tables e below F (T.setTop (mkF m pn Ls rest))) : own_G p.tables e below F (T.setTop (mkF m pc Ls (.int (lcmpW x y) :: rest))) :=
  own_ynL.elim (fun q => own_lifY X hx hd ho hp q (h1 q)) (fun q => own_lifN X hx hd hq q (h2 q))
theorem own_ret (X : Stand p l e R s m args below meth c T locs cells slots) (hx : p.tables.exec = Jvm.exec) (hlk : meth.locks = false) {K N pc : Nat} {Ls : Array Slot} {w : Value} {t : FieldType} {i : Instr} {rest : List Value} {Q : Option Value → Heap → List Loc → Prop} (hret : meth.sig.returnType = some t) (hn : narrow t w = w)
    (hi : (i = .ireturn ∧ (t = .int ∨ t = .boolean ∨ t = .byte ∨ t = .char ∨ t = .short) ∧ ∃ z, w = .int z) ∨ (i = .lreturn ∧ t = .long ∧ ∃ z, w = .long z) ∨ (i = .dreturn ∧ t = .double ∧ ∃ z, w = .double z) ∨ (i = .freturn ∧ t = .float ∧ ∃ z, w = .float z) ∨ (i = .areturn ∧ t.isReference = true ∧ w.isRef = true))
    (hd : decode c.code pc = .ok (i, 1)) (hK : cells ≤ K) (hN : slots ≤ N) (hQ : Q (some w) T.heap locs) :
    own_G p.tables e below (fun o U' => ∃ v L, o = .returned v ∧ Q v U'.heap L ∧ FrameEnd s o U' L K N) (T.setTop (mkF m pc Ls (w :: rest))) := by
  obtain ⟨fs, hr, hrun, hended, hW, hsame⟩ := X.leave (v := some w) (fun h => by rw [hret] at h; cases h) hlk
  exact ⟨_, _, retOut X hx hret hn hi hd hr, hrun, hended, _, _, rfl, hQ, ⟨_, rfl⟩, hW, hsame.mono hK hN⟩
theorem own_retI (X : Stand p l e R s m args below meth c T locs cells slots) (hx : p.tables.exec = Jvm.exec) (hlk : meth.locks = false) {K N pc : Nat} {Ls : Array Slot} {z : Int32} {rest : List Value} {Q : Option Value → Heap → List Loc → Prop} (hret : meth.sig.returnType = some .int)
    (hd : decode c.code pc = .ok (.ireturn, 1)) (hK : cells ≤ K) (hN : slots ≤ N) (hQ : Q (some (.int z)) T.heap locs) :
    own_G p.tables e below (fun o U' => ∃ v L, o = .returned v ∧ Q v U'.heap L ∧ FrameEnd s o U' L K N) (T.setTop (mkF m pc Ls (.int z :: rest))) :=
  own_ret X hx hlk hret rfl (Or.inl ⟨rfl, Or.inl rfl, z, rfl⟩) hd hK hN hQ
theorem own_retZ (X : Stand p l e R s m args below meth c T locs cells slots) (hx : p.tables.exec = Jvm.exec) (hlk : meth.locks = false) {K N pc : Nat} {Ls : Array Slot} {z : Int32} {rest : List Value} {Q : Option Value → Heap → List Loc → Prop} (hret : meth.sig.returnType = some .boolean)
    (hd : decode c.code pc = .ok (.ireturn, 1)) (hz : z = 0 ∨ z = 1) (hK : cells ≤ K) (hN : slots ≤ N) (hQ : Q (some (.int z)) T.heap locs) :
    own_G p.tables e below (fun o U' => ∃ v L, o = .returned v ∧ Q v U'.heap L ∧ FrameEnd s o U' L K N) (T.setTop (mkF m pc Ls (.int z :: rest))) :=
  own_ret X hx hlk hret (by rcases hz with rfl | rfl <;> rfl) (Or.inl ⟨rfl, Or.inr (Or.inl rfl), z, rfl⟩) hd hK hN hQ
theorem own_retL (X : Stand p l e R s m args below meth c T locs cells slots) (hx : p.tables.exec = Jvm.exec) (hlk : meth.locks = false) {K N pc : Nat} {Ls : Array Slot} {z : Int64} {rest : List Value} {Q : Option Value → Heap → List Loc → Prop} (hret : meth.sig.returnType = some .long)
    (hd : decode c.code pc = .ok (.lreturn, 1)) (hK : cells ≤ K) (hN : slots ≤ N) (hQ : Q (some (.long z)) T.heap locs) :
    own_G p.tables e below (fun o U' => ∃ v L, o = .returned v ∧ Q v U'.heap L ∧ FrameEnd s o U' L K N) (T.setTop (mkF m pc Ls (.long z :: rest))) :=
  own_ret X hx hlk hret rfl (Or.inr (Or.inl ⟨rfl, rfl, z, rfl⟩)) hd hK hN hQ
theorem own_retA (X : Stand p l e R s m args below meth c T locs cells slots) (hx : p.tables.exec = Jvm.exec) (hlk : meth.locks = false) {K N pc : Nat} {Ls : Array Slot} {w : Value} {t : FieldType} {rest : List Value} {Q : Option Value → Heap → List Loc → Prop} (hret : meth.sig.returnType = some t) (ht : t.isReference = true) (hw : w.isRef = true)
    (hd : decode c.code pc = .ok (.areturn, 1)) (hK : cells ≤ K) (hN : slots ≤ N) (hQ : Q (some w) T.heap locs) :
    own_G p.tables e below (fun o U' => ∃ v L, o = .returned v ∧ Q v U'.heap L ∧ FrameEnd s o U' L K N) (T.setTop (mkF m pc Ls (w :: rest))) :=
  own_ret X hx hlk hret (by cases t <;> first | (cases ht; done) | (rcases ref_cases hw with rfl | ⟨z, rfl⟩ <;> rfl)) (Or.inr (Or.inr (Or.inr (Or.inr ⟨rfl, ht, hw⟩)))) hd hK hN hQ
theorem own_retV (X : Stand p l e R s m args below meth c T locs cells slots) (hx : p.tables.exec = Jvm.exec) (hlk : meth.locks = false) {K N pc : Nat} {Ls : Array Slot} {Q : Option Value → Heap → List Loc → Prop} (hret : meth.sig.returnType = none)
    (hd : decode c.code pc = .ok (.return_, 1)) (hK : cells ≤ K) (hN : slots ≤ N) (hQ : Q none T.heap locs) :
    own_G p.tables e below (fun o U' => ∃ v L, o = .returned v ∧ Q v U'.heap L ∧ FrameEnd s o U' L K N) (T.setTop (mkF m pc Ls [])) := by
  obtain ⟨fs, hr, hrun, hended, hW, hsame⟩ := X.leave (v := none) (fun _ => rfl) hlk
  exact ⟨_, _, X.returnOut hx hret hd hr, hrun, hended, _, _, rfl, hQ, ⟨_, rfl⟩, hW, hsame.mono hK hN⟩
theorem own_acmpVE (X : Stand p l e R s m args below meth c T locs cells slots) (hx : p.tables.exec = Jvm.exec) {cd : ACond} {x y : Value} (h1 : x.isRef = true) (h2 : y.isRef = true) {o : Int} {pc pc' : Nat} {Ls : Array Slot} {rest : List Value} (hd : decode c.code pc = .ok (.if_acmp cd o, 3)) (ho : 0 ≤ (pc : Int) + o) (hp : pc' = if acV cd true = true then ((pc : Int) + o).toNat else pc + 3)
    (hc : x = y) (k : own_G p.tables e below F (T.setTop (mkF m pc' Ls rest))) : own_G p.tables e below F (T.setTop (mkF m pc Ls (y :: x :: rest))) :=
  own_go (fun _ q => RoadKit.acmp X hx rfl h1 h2 (pc0 := pc) (pc' := pc') (same := true) rfl hd rfl (by simp [hc]) ho hp q) k
theorem own_acmpVD (X : Stand p l e R s m args below meth c T locs cells slots) (hx : p.tables.exec = Jvm.exec) {cd : ACond} {x y : Value} (h1 : x.isRef = true) (h2 : y.isRef = true) {o : Int} {pc pc' : Nat} {Ls : Array Slot} {rest : List Value} (hd : decode c.code pc = .ok (.if_acmp cd o, 3)) (ho : 0 ≤ (pc : Int) + o) (hp : pc' = if acV cd false = true then ((pc : Int) + o).toNat else pc + 3)
    (hc : ¬ x = y) (k : own_G p.tables e below F (T.setTop (mkF m pc' Ls rest))) : own_G p.tables e below F (T.setTop (mkF m pc Ls (y :: x :: rest))) :=
  own_go (fun _ q => RoadKit.acmp X hx rfl h1 h2 (pc0 := pc) (pc' := pc') (same := false) rfl hd rfl (by simp [hc]) ho hp q) k
theorem own_acmpAE (X : Stand p l e R s m args below meth c T locs cells slots) (hx : p.tables.exec = Jvm.exec) {cd : ACond} {x y : Addr} {o : Int} {pc pc' : Nat} {Ls : Array Slot} {rest : List Value} (hd : decode c.code pc = .ok (.if_acmp cd o, 3)) (ho : 0 ≤ (pc : Int) + o) (hp : pc' = if acV cd true = true then ((pc : Int) + o).toNat else pc + 3)
    (hc : x = y) (k : own_G p.tables e below F (T.setTop (mkF m pc' Ls rest))) : own_G p.tables e below F (T.setTop (mkF m pc Ls (.ref y :: .ref x :: rest))) :=
  own_acmpVE X hx rfl rfl hd ho hp (by rw [hc]) k
theorem own_acmpAD (X : Stand p l e R s m args below meth c T locs cells slots) (hx : p.tables.exec = Jvm.exec) {cd : ACond} {x y : Addr} {o : Int} {pc pc' : Nat} {Ls : Array Slot} {rest : List Value} (hd : decode c.code pc = .ok (.if_acmp cd o, 3)) (ho : 0 ≤ (pc : Int) + o) (hp : pc' = if acV cd false = true then ((pc : Int) + o).toNat else pc + 3)
    (hc : ¬ x = y) (k : own_G p.tables e below F (T.setTop (mkF m pc' Ls rest))) : own_G p.tables e below F (T.setTop (mkF m pc Ls (.ref y :: .ref x :: rest))) :=
  own_acmpVD X hx rfl rfl hd ho hp (fun q => hc (by cases q; rfl)) k
end Own
theorem own_cat1 {v : Value} (h : v.isRef = true) : v.category = 1 := by cases v <;> first | (cases h; done) | rfl
theorem own_sta_keep {Z : State} {h h' : Heap} {C n d : String} {v : Value} {ws : List Addr} (F : Sta Z h C n d v) (K : Keep h h' ws) (q : ∀ x ∈ ws, ∀ c : Cell, h[x]? = some c → c.vm.isStatics = false) : Sta Z h' C n d v := by
  obtain ⟨cf, i, k, f, st, cell, h1, h2, h3, h4, h5, h6, h7⟩ := F
  exact ⟨cf, i, k, f, st, cell, h1, h2, h3, h4, K.2.1 _ _ h5 (fun z => by rw [q _ z _ h5] at h6; cases h6), h6, h7⟩
theorem own_eqint {t : Term} {n : Int32} {args : Array Value} {s : State} (h : (Jvm.Cond.eq t (Term.int n)).value args s none s [] = some true) : t.eval args s none [] s = some (.int n) := by
  have hb : (Term.int n).eval args s none [] s = some (.int n) := Term.int_eval n
  simp only [Jvm.Cond.value, hb] at h
  cases ht : t.eval args s none [] s with
  | none => simp [ht] at h
  | some v => cases v <;> simp [ht] at h ⊢; exact h
theorem own_iconst {tb : Tables} [Ours tb] {e : Env} {below : List Frame} {T target : State} {m : MethodId} {c : Code} {g : JFrame} {v : Int32} (h : At T m c below) (hx : tb.exec = Jvm.exec) (hg : g.method = m) {i : Int} (hd : decode c.code g.pc = .ok (.iconst i, 1)) (hv : Int32.ofInt i = v)
    (hr : Steps tb e below (T.setTop { g with pc := g.pc + 1, stack := .int v :: g.stack }) target) : Steps tb e below (T.setTop g) target := by
  subst hv
  exact XS.iconst h hx hg hd hr
theorem own_bipush {tb : Tables} [Ours tb] {e : Env} {below : List Frame} {T target : State} {m : MethodId} {c : Code} {g : JFrame} {v : Int32} (h : At T m c below) (hx : tb.exec = Jvm.exec) (hg : g.method = m) {i : Int} (hd : decode c.code g.pc = .ok (.bipush i, 2)) (hv : (Int8.ofInt i).toInt32 = v)
    (hr : Steps tb e below (T.setTop { g with pc := g.pc + 2, stack := .int v :: g.stack }) target) : Steps tb e below (T.setTop g) target := by
  subst hv
  exact XS.bipush h hx hg hd hr
theorem own_sipush {tb : Tables} [Ours tb] {e : Env} {below : List Frame} {T target : State} {m : MethodId} {c : Code} {g : JFrame} {v : Int32} (h : At T m c below) (hx : tb.exec = Jvm.exec) (hg : g.method = m) {i : Int} (hd : decode c.code g.pc = .ok (.sipush i, 3)) (hv : (Int16.ofInt i).toInt32 = v)
    (hr : Steps tb e below (T.setTop { g with pc := g.pc + 3, stack := .int v :: g.stack }) target) : Steps tb e below (T.setTop g) target := by
  subst hv
  exact XS.sipush h hx hg hd hr
/-! own layer: arrays by their whole list of values -/
def own_Ar (Z : State) (h : Heap) (a : Addr) (ty : FieldType) (L : List Value) : Prop := ∃ c : Cell, Arr Z h a c ty ∧ c.slots.toList = L
theorem own_lenL {L : List Value} {n : Nat} {z : Int32} (h : L.length = n) (h2 : n.toInt32 = z) : L.length.toInt32 = z := by rw [h]; exact h2
section OwnArr
variable {Z : State} {h h' : Heap} {a b : Addr} {ty : FieldType} {L : List Value}
theorem own_Ar_new {cA : ClassId} {n : Int32} {N : Nat} (A : Arr Z h a (newA cA ty n) ty) (hN : n.toNatClampNeg = N) (hL : List.replicate N (defaultValue ty) = L) : own_Ar Z h a ty L := ⟨_, A, by rw [← hL, ← hN]; simp [newA]⟩
theorem own_Ar_ext (F : own_Ar Z h a ty L) (E : Ext h h') : own_Ar Z h' a ty L := by obtain ⟨c, A, r⟩ := F; exact ⟨c, A.ext E, r⟩
theorem own_Ar_other {sl : Nat} {v : Value} (F : own_Ar Z h b ty L) (W : Wr h h' a sl v) (q : b ≠ a) : own_Ar Z h' b ty L := by obtain ⟨c, A, r⟩ := F; exact ⟨c, A.other W q, r⟩
theorem own_Ar_keep {ws : List Addr} (F : own_Ar Z h a ty L) (K : Keep h h' ws) (q : a ∉ ws) : own_Ar Z h' a ty L := by obtain ⟨c, A, r⟩ := F; exact ⟨c, ⟨K.2.1 a c A.1 q, A.2⟩, r⟩
theorem own_Ar_lt (F : own_Ar Z h a ty L) : a < h.size := by obtain ⟨c, A, -⟩ := F; exact A.lt
theorem own_Ar_ns (F : own_Ar Z h a ty L) : ∀ cell : Cell, h[a]? = some cell → cell.vm.isStatics = false := by obtain ⟨c, A, -⟩ := F; exact Arr.nostat A
theorem own_Ar_same {i : Nat} {v : Value} {L' : List Value} (F : own_Ar Z h a ty L) (W : Wr h h' a i v) (hL : L.set i v = L') : own_Ar Z h' a ty L' := by
  obtain ⟨c, A, r⟩ := F
  refine ⟨_, A.same W, ?_⟩
  rw [← hL, ← r]
  simp [Cell.setSlot]
theorem own_Ar_ne {C : String} {k : Nat} {a0 : Array Value} (E : Exa Z h b C) (wi : (Jvm.Cond.instantiable C k).before a0 Z = true) (F : own_Ar Z h a ty L) : b ≠ a := by obtain ⟨c, A, -⟩ := F; exact ne_arr E wi A
theorem own_in_of {c : Cell} {j : Int32} (r : c.slots.toList = L) (hj : ¬ j < 0) (hl : j.toNatClampNeg < L.length) : ¬ (j < 0 ∨ c.slots.size ≤ j.toNatClampNeg) := by
  have e : c.slots.size = L.length := by rw [← r]; simp
  rw [e]
  exact fun q => q.elim hj (fun z => absurd hl (Nat.not_lt.mpr z))
theorem own_at_of {c : Cell} {i : Nat} {v : Value} (r : c.slots.toList = L) (hv : L[i]? = some v) : c.slots[i]? = some v := by
  rw [← hv, ← r]; simp
theorem own_lt_of {i : Nat} {v : Value} (hv : L[i]? = some v) : i < L.length := (List.getElem?_eq_some_iff.mp hv).1
variable {p : Program} {l : Launch} {e : Env} {R : Room} {s : State} {m : MethodId} {args : Array Value} {below : List Frame} {meth : Method} {c : Code} {T : State} {locs : List Loc} {cells slots : Nat}
theorem own_stI (X : Stand p l e R s m args below meth c T locs cells slots) (hx : p.tables.exec = Jvm.exec) (hZ : Z.Warmed39 s.vm) (eT : T.heap = h) (F : own_Ar Z h a .int L) {j x : Int32} {i : Nat} (hi : j.toNatClampNeg = i) (hj : ¬ j < 0) (hl : i < L.length) {L' : List Value} (hL : L.set i (.int x) = L')
    {g : JFrame} (hg : g.method = m) {rest : List Value} (hs : g.stack = .int x :: .int j :: .ref a :: rest) (hd : decode c.code g.pc = .ok (.iastore, 1)) :
    ∃ T' h', Stand p l e R s m args below meth c T' (locs ++ [⟨a, i⟩]) cells slots ∧ T'.heap = h' ∧ Wr h h' a i (.int x) ∧ own_Ar Z h' a .int L' ∧ ∀ target, Steps p.tables e below (T'.setTop { g with pc := g.pc + 1, stack := rest }) target → Steps p.tables e below (T.setTop g) target := by
  subst hi
  obtain ⟨cl, A, r⟩ := F
  obtain ⟨T', h', X', e', W, st⟩ := stI X hx hZ eT A (own_in_of r hj hl) hg hs hd
  exact ⟨T', h', X', e', W, own_Ar_same ⟨cl, A, r⟩ W hL, st⟩
theorem own_ldI (X : Stand p l e R s m args below meth c T locs cells slots) (hx : p.tables.exec = Jvm.exec) (hZ : Z.Warmed39 s.vm) (eT : T.heap = h) (F : own_Ar Z h a .int L) {j : Int32} {v : Value} (hj : ¬ j < 0) (hv : L[j.toNatClampNeg]? = some v)
    {g : JFrame} (hg : g.method = m) {rest : List Value} (hs : g.stack = .int j :: .ref a :: rest) (hd : decode c.code g.pc = .ok (.iaload, 1)) :
    ∀ target, Steps p.tables e below (T.setTop { g with pc := g.pc + 1, stack := v :: rest }) target → Steps p.tables e below (T.setTop g) target := by
  obtain ⟨cl, A, r⟩ := F
  exact X.iaload hx (by rw [eT]; exact A.1) (State.isArrayOf_alike hZ.alike A.2.1) A.2.2 (own_in_of r hj (own_lt_of hv)) (own_at_of r hv) hg hs hd
theorem own_ldB (X : Stand p l e R s m args below meth c T locs cells slots) (hx : p.tables.exec = Jvm.exec) (hZ : Z.Warmed39 s.vm) (eT : T.heap = h) (F : own_Ar Z h a .byte L) {j : Int32} {v : Value} (hj : ¬ j < 0) (hv : L[j.toNatClampNeg]? = some v)
    {g : JFrame} (hg : g.method = m) {rest : List Value} (hs : g.stack = .int j :: .ref a :: rest) (hd : decode c.code g.pc = .ok (.baload, 1)) :
    ∀ target, Steps p.tables e below (T.setTop { g with pc := g.pc + 1, stack := v :: rest }) target → Steps p.tables e below (T.setTop g) target := by
  obtain ⟨cl, A, r⟩ := F
  exact X.baloadBytes hx (by rw [eT]; exact A.1) (State.isArrayOf_alike hZ.alike A.2.1) A.2.2 (own_in_of r hj (own_lt_of hv)) (own_at_of r hv) hg hs hd
theorem own_ldR (X : Stand p l e R s m args below meth c T locs cells slots) (hx : p.tables.exec = Jvm.exec) (hZ : Z.Warmed39 s.vm) (eT : T.heap = h) (F : own_Ar Z h a ty L) (hty : ty.isReference = true) {j : Int32} {v : Value} (hj : ¬ j < 0) (hv : L[j.toNatClampNeg]? = some v)
    {g : JFrame} (hg : g.method = m) {rest : List Value} (hs : g.stack = .int j :: .ref a :: rest) (hd : decode c.code g.pc = .ok (.aaload, 1)) :
    ∀ target, Steps p.tables e below (T.setTop { g with pc := g.pc + 1, stack := v :: rest }) target → Steps p.tables e below (T.setTop g) target := by
  obtain ⟨cl, A, r⟩ := F
  exact X.aaload hx (by rw [eT]; exact A.1) (State.isArrayOf_alike hZ.alike A.2.1) hty A.2.2 (own_in_of r hj (own_lt_of hv)) (own_at_of r hv) hg hs hd
theorem own_alen (X : Stand p l e R s m args below meth c T locs cells slots) (hx : p.tables.exec = Jvm.exec) (hZ : Z.Warmed39 s.vm) (eT : T.heap = h) (F : own_Ar Z h a ty L) {n : Int32} (hn : L.length.toInt32 = n)
    {g : JFrame} (hg : g.method = m) {rest : List Value} (hs : g.stack = .ref a :: rest) (hd : decode c.code g.pc = .ok (.arraylength, 1)) :
    ∀ target, Steps p.tables e below (T.setTop { g with pc := g.pc + 1, stack := .int n :: rest }) target → Steps p.tables e below (T.setTop g) target := by
  obtain ⟨cl, A, r⟩ := F
  have q : cl.slots.size.toInt32 = n := by rw [← hn, ← r]; simp
  rw [← q]
  exact fun t k => X.arraylength hx (by rw [eT]; exact A.1) (State.isArrayOf_alike hZ.alike A.2.1) hg hs hd t k
end OwnArr
/-! own layer: arrays of references -/
def own_Ao (Z : State) (h : Heap) (a : Addr) (C : String) (L : List Value) : Prop := ∃ c : Cell, Arr Z h a c (.object C) ∧ Ovr Z c.cls C ∧ c.slots.toList = L
section OwnArrO
variable {Z : State} {h h' : Heap} {a b : Addr} {C : String} {L : List Value}
theorem own_Ao_new {cA : ClassId} {n : Int32} (A : Arr Z h a (newA cA (.object C) n) (.object C)) (O : Ovr Z cA C) : own_Ao Z h a C (List.replicate n.toNatClampNeg .null) := ⟨_, A, O, by simp [newA, defaultValue]⟩
theorem own_Ao_ar (F : own_Ao Z h a C L) : own_Ar Z h a (.object C) L := by obtain ⟨c, A, -, r⟩ := F; exact ⟨c, A, r⟩
theorem own_Ao_ext (F : own_Ao Z h a C L) (E : Ext h h') : own_Ao Z h' a C L := by obtain ⟨c, A, r⟩ := F; exact ⟨c, A.ext E, r⟩
theorem own_Ao_other {sl : Nat} {v : Value} (F : own_Ao Z h b C L) (W : Wr h h' a sl v) (q : b ≠ a) : own_Ao Z h' b C L := by obtain ⟨c, A, r⟩ := F; exact ⟨c, A.other W q, r⟩
theorem own_Ao_keep {ws : List Addr} (F : own_Ao Z h a C L) (K : Keep h h' ws) (q : a ∉ ws) : own_Ao Z h' a C L := by obtain ⟨c, A, r⟩ := F; exact ⟨c, ⟨K.2.1 a c A.1 q, A.2⟩, r⟩
theorem own_Ao_lt (F : own_Ao Z h a C L) : a < h.size := by obtain ⟨c, A, -⟩ := F; exact A.lt
theorem own_Ao_same {i : Nat} {v : Value} (F : own_Ao Z h a C L) (W : Wr h h' a i v) : own_Ao Z h' a C (L.set i v) := by
  obtain ⟨c, A, O, r⟩ := F
  refine ⟨_, A.same W, O, ?_⟩
  rw [← r]
  simp [Cell.setSlot]
variable {p : Program} {l : Launch} {e : Env} {R : Room} {s : State} {m : MethodId} {args : Array Value} {below : List Frame} {meth : Method} {c : Code} {T : State} {locs : List Loc} {cells slots : Nat}
theorem own_stR (X : Stand p l e R s m args below meth c T locs cells slots) (hx : p.tables.exec = Jvm.exec) (hZ : Z.Warmed39 s.vm) (eT : T.heap = h) (F : own_Ao Z h a C L) {j : Int32} {v : Value} (hv : v = .null ∨ ∃ y, v = .ref y ∧ Ins Z h y C true) (hj : ¬ j < 0) (hl : j.toNatClampNeg < L.length)
    {g : JFrame} (hg : g.method = m) {rest : List Value} (hs : g.stack = v :: .int j :: .ref a :: rest) (hd : decode c.code g.pc = .ok (.aastore, 1)) :
    ∃ T' h', Stand p l e R s m args below meth c T' (locs ++ [⟨a, j.toNatClampNeg⟩]) cells slots ∧ T'.heap = h' ∧ Wr h h' a j.toNatClampNeg v ∧ own_Ao Z h' a C (L.set j.toNatClampNeg v) ∧ ∀ target, Steps p.tables e below (T'.setTop { g with pc := g.pc + 1, stack := rest }) target → Steps p.tables e below (T.setTop g) target := by
  obtain ⟨cl, A, O, r⟩ := F
  have S : Sto Z h a v := by
    rcases hv with rfl | ⟨y, rfl, I⟩
    · exact Or.inl rfl
    · exact Sto.of A O I
  obtain ⟨T', h', X', e', W, st⟩ := stR X hx hZ eT A (own_in_of r hj hl) rfl S hg hs hd
  exact ⟨T', h', X', e', W, own_Ao_same ⟨cl, A, O, r⟩ W, st⟩
end OwnArrO
/-! own layer: a bundle of boxed ints -/
def own_Bn (Z : State) (h : Heap) (l : List (Addr × Int32)) : Prop := ∀ x ∈ l, Exa Z h x.1 "java/lang/Integer" ∧ Fld Z h x.1 "java/lang/Integer" "value" "I" (.int x.2)
theorem own_Bn_keep {Z : State} {h h' : Heap} {l : List (Addr × Int32)} {ws : List Addr} (B : own_Bn Z h l) (K : Keep h h' ws) (q : ∀ x ∈ l, x.1 ∉ ws) : own_Bn Z h' l := fun x hx => ⟨(B x hx).1.keep K, (B x hx).2.keep K (q x hx)⟩
theorem own_Bn_exa {Z : State} {h : Heap} {l : List (Addr × Int32)} {a : Addr} {v : Int32} (B : own_Bn Z h l) (q : (a, v) ∈ l) : Exa Z h a "java/lang/Integer" := (B _ q).1
theorem own_Bn_fld {Z : State} {h : Heap} {l : List (Addr × Int32)} {a : Addr} {v : Int32} (B : own_Bn Z h l) (q : (a, v) ∈ l) : Fld Z h a "java/lang/Integer" "value" "I" (.int v) := (B _ q).2
theorem own_Bn_nil (Z : State) (h : Heap) : own_Bn Z h [] := fun _ q => nomatch q
theorem own_Bn_cons {Z : State} {h : Heap} {l : List (Addr × Int32)} {a : Addr} {v : Int32} (E : Exa Z h a "java/lang/Integer") (F : Fld Z h a "java/lang/Integer" "value" "I" (.int v)) (B : own_Bn Z h l) : own_Bn Z h ((a, v) :: l) := fun x hx => by
  rcases List.mem_cons.mp hx with rfl | q
  · exact ⟨E, F⟩
  · exact B x q
theorem own_stB {Z : State} {h : Heap} {a : Addr} {L : List Value} {p : Program} {l : Launch} {e : Env} {R : Room} {s : State} {m : MethodId} {args : Array Value} {below : List Frame} {meth : Method} {c : Code} {T : State} {locs : List Loc} {cells slots : Nat}
    (X : Stand p l e R s m args below meth c T locs cells slots) (hx : p.tables.exec = Jvm.exec) (hZ : Z.Warmed39 s.vm) (eT : T.heap = h) (F : own_Ar Z h a .byte L) {j x : Int32} {i : Nat} (hi : j.toNatClampNeg = i) (hj : ¬ j < 0) (hl : i < L.length) (hn : nar .byte x = x) {L' : List Value} (hL : L.set i (.int x) = L')
    {g : JFrame} (hg : g.method = m) {rest : List Value} (hs : g.stack = .int x :: .int j :: .ref a :: rest) (hd : decode c.code g.pc = .ok (.bastore, 1)) :
    ∃ T' h', Stand p l e R s m args below meth c T' (locs ++ [⟨a, i⟩]) cells slots ∧ T'.heap = h' ∧ Wr h h' a i (.int x) ∧ own_Ar Z h' a .byte L' ∧ ∀ target, Steps p.tables e below (T'.setTop { g with pc := g.pc + 1, stack := rest }) target → Steps p.tables e below (T.setTop g) target := by
  subst hi
  obtain ⟨cl, A, r⟩ := F
  obtain ⟨T', h', X', e', W, st⟩ := stB X hx hZ eT A (own_in_of r hj hl) hg hs hd
  rw [hn] at W
  exact ⟨T', h', X', e', W, own_Ar_same ⟨cl, A, r⟩ W hL, st⟩
theorem own_arv_of {Z : State} {h : Heap} {a : Addr} {ty : FieldType} {L : List Value} {z : Int32} {dv : Value} (F : own_Ar Z h a ty L) (hz : z.toNatClampNeg = L.length) (h0 : ¬ z < 0) (hf : ∀ v ∈ L, fits ty v = true) : ∃ k, Arv Z h a k ty z L dv := by
  obtain ⟨c, A, r⟩ := F
  have hs : c.slots.size = L.length := by rw [← r]; simp
  refine ⟨c.cls, c, A, rfl, by rw [hz, hs], h0, fun i hi => ?_, fun i hi => ?_⟩
  · have hi' : i < L.length := by rw [← hs]; exact hi
    refine own_at_of r ?_
    rw [List.getElem?_eq_getElem hi', List.getD_eq_getElem?_getD, List.getElem?_eq_getElem hi']; rfl
  · have hi' : i < L.length := by rw [← hs]; exact hi
    rw [List.getD_eq_getElem?_getD, List.getElem?_eq_getElem hi']
    exact hf _ (List.getElem_mem hi')
theorem own_ar_of {Z : State} {h : Heap} {a : Addr} {k : ClassId} {ty : FieldType} {L : List Value} {z : Int32} {dv : Value} (F : Arv Z h a k ty z L dv) (hz : z.toNatClampNeg = L.length) : own_Ar Z h a ty L := by
  obtain ⟨c, A, -, hs, -, H, -⟩ := F
  refine ⟨c, A, ?_⟩
  apply List.ext_getElem?
  intro i
  by_cases hi : i < c.slots.size
  · have q := H i hi
    have hi' : i < L.length := by rw [← hz, ← hs]; exact hi
    rw [List.getD_eq_getElem?_getD, List.getElem?_eq_getElem hi'] at q
    rw [List.getElem?_eq_getElem hi', Array.getElem?_toList]
    exact q
  · have h1 : c.slots.toList[i]? = none := by rw [List.getElem?_eq_none_iff]; simpa using hi
    have h2 : L[i]? = none := by rw [List.getElem?_eq_none_iff, ← hz, ← hs]; omega
    rw [h1, h2]
theorem own_ldD {Z : State} {h : Heap} {a : Addr} {L : List Value} {p : Program} {l : Launch} {e : Env} {R : Room} {s : State} {m : MethodId} {args : Array Value} {below : List Frame} {meth : Method} {c : Code} {T : State} {locs : List Loc} {cells slots : Nat}
    (X : Stand p l e R s m args below meth c T locs cells slots) (hx : p.tables.exec = Jvm.exec) (hZ : Z.Warmed39 s.vm) (eT : T.heap = h) (F : own_Ar Z h a .double L) {j : Int32} {v : Value} (hj : ¬ j < 0) (hv : L[j.toNatClampNeg]? = some v)
    {g : JFrame} (hg : g.method = m) {rest : List Value} (hs : g.stack = .int j :: .ref a :: rest) (hd : decode c.code g.pc = .ok (.daload, 1)) :
    ∀ target, Steps p.tables e below (T.setTop { g with pc := g.pc + 1, stack := v :: rest }) target → Steps p.tables e below (T.setTop g) target := by
  obtain ⟨cl, A, r⟩ := F
  exact X.daload hx (by rw [eT]; exact A.1) (State.isArrayOf_alike hZ.alike A.2.1) A.2.2 (own_in_of r hj (own_lt_of hv)) (own_at_of r hv) hg hs hd
theorem own_stD {Z : State} {h : Heap} {a : Addr} {L : List Value} {p : Program} {l : Launch} {e : Env} {R : Room} {s : State} {m : MethodId} {args : Array Value} {below : List Frame} {meth : Method} {c : Code} {T : State} {locs : List Loc} {cells slots : Nat}
    (X : Stand p l e R s m args below meth c T locs cells slots) (hx : p.tables.exec = Jvm.exec) (hZ : Z.Warmed39 s.vm) (eT : T.heap = h) (F : own_Ar Z h a .double L) {j : Int32} {x : UInt64} {i : Nat} (hi : j.toNatClampNeg = i) (hj : ¬ j < 0) (hl : i < L.length) {L' : List Value} (hL : L.set i (.double x) = L')
    {g : JFrame} (hg : g.method = m) {rest : List Value} (hs : g.stack = .double x :: .int j :: .ref a :: rest) (hd : decode c.code g.pc = .ok (.dastore, 1)) :
    ∃ T' h', Stand p l e R s m args below meth c T' (locs ++ [⟨a, i⟩]) cells slots ∧ T'.heap = h' ∧ Wr h h' a i (.double x) ∧ own_Ar Z h' a .double L' ∧ ∀ target, Steps p.tables e below (T'.setTop { g with pc := g.pc + 1, stack := rest }) target → Steps p.tables e below (T.setTop g) target := by
  subst hi
  obtain ⟨cl, A, r⟩ := F
  obtain ⟨T', h', X', e', W, st⟩ := stD X hx hZ eT A (own_in_of r hj hl) hg hs hd
  exact ⟨T', h', X', e', W, own_Ar_same ⟨cl, A, r⟩ W hL, st⟩
theorem own_retD {p : Program} {l : Launch} {e : Env} {R : Room} {s : State} {m : MethodId} {args : Array Value} {below : List Frame} {meth : Method} {c : Code} {T : State} {locs : List Loc} {cells slots : Nat} (X : Stand p l e R s m args below meth c T locs cells slots) (hx : p.tables.exec = Jvm.exec) (hlk : meth.locks = false) {K N pc : Nat} {Ls : Array Slot} {z : UInt64} {rest : List Value} {Q : Option Value → Heap → List Loc → Prop} (hret : meth.sig.returnType = some .double)
    (hd : decode c.code pc = .ok (.dreturn, 1)) (hK : cells ≤ K) (hN : slots ≤ N) (hQ : Q (some (.double z)) T.heap locs) :
    own_G p.tables e below (fun o U' => ∃ v L, o = .returned v ∧ Q v U'.heap L ∧ FrameEnd s o U' L K N) (T.setTop (mkF m pc Ls (.double z :: rest))) :=
  own_ret X hx hlk hret rfl (Or.inr (Or.inr (Or.inl ⟨rfl, rfl, z, rfl⟩))) hd hK hN hQ
theorem own_cast {tb : Tables} {e : Env} {below : List Frame} {F : Outcome → State → Prop} {A B : State} (h : A = B) (k : own_G tb e below F B) : own_G tb e below F A := h ▸ k
def own_c (x y : UInt64) : Int32 := cmpValue (FP.dcmp x y) .l
def own_cg (x y : UInt64) : Int32 := cmpValue (FP.dcmp x y) .g
/-! own layer: bodies that load String constants: the Stand is over (s.setVm vm), ReturnedEndW ends them -/
theorem own_since0 (s : State) (n : Nat) : s.Since s.vm n := (State.WarmedH.refl s).since n
section OwnW
variable {p : Program} {l : Launch} {e : Env} {R : Room} {s : State} {vm : Vm} {m : MethodId} {args : Array Value} {below : List Frame} {meth : Method} {c : Code} {T : State} {locs : List Loc} {cells slots : Nat} {kk : Nat}
theorem own_retW (X : Stand p l e R (s.setVm vm) m args below meth c T locs cells slots) (hx : p.tables.exec = Jvm.exec) (hlk : meth.locks = false) (hS : s.Since vm kk) (hk : kk ≤ T.heap.size) {K N pc : Nat} {Ls : Array Slot} {w : Value} {t : FieldType} {i : Instr} {rest : List Value} {Q : Option Value → Heap → List Loc → Prop} (hret : meth.sig.returnType = some t) (hn : narrow t w = w)
    (hi : (i = .ireturn ∧ (t = .int ∨ t = .boolean ∨ t = .byte ∨ t = .char ∨ t = .short) ∧ ∃ z, w = .int z) ∨ (i = .lreturn ∧ t = .long ∧ ∃ z, w = .long z) ∨ (i = .dreturn ∧ t = .double ∧ ∃ z, w = .double z) ∨ (i = .freturn ∧ t = .float ∧ ∃ z, w = .float z) ∨ (i = .areturn ∧ t.isReference = true ∧ w.isRef = true))
    (hd : decode c.code pc = .ok (i, 1)) (hK : cells ≤ K) (hN : slots ≤ N) (hQ : Q (some w) T.heap locs) :
    own_G p.tables e below (fun o U' => ∃ v L, o = .returned v ∧ Q v U'.heap L ∧ ReturnedEndW s o U' L K N) (T.setTop (mkF m pc Ls (w :: rest))) := by
  obtain ⟨fs, hr, hrun, hended, a, b, d, f⟩ := X.leaveW hS hk (v := some w) (fun h => by rw [hret] at h; cases h) hlk
  exact ⟨_, _, retOut X hx hret hn hi hd hr, hrun, hended, _, _, rfl, hQ, a, b, d, f.mono hK hN⟩
theorem own_retWI (X : Stand p l e R (s.setVm vm) m args below meth c T locs cells slots) (hx : p.tables.exec = Jvm.exec) (hlk : meth.locks = false) (hS : s.Since vm kk) (hk : kk ≤ T.heap.size) {K N pc : Nat} {Ls : Array Slot} {z : Int32} {rest : List Value} {Q : Option Value → Heap → List Loc → Prop} (hret : meth.sig.returnType = some .int)
    (hd : decode c.code pc = .ok (.ireturn, 1)) (hK : cells ≤ K) (hN : slots ≤ N) (hQ : Q (some (.int z)) T.heap locs) :
    own_G p.tables e below (fun o U' => ∃ v L, o = .returned v ∧ Q v U'.heap L ∧ ReturnedEndW s o U' L K N) (T.setTop (mkF m pc Ls (.int z :: rest))) :=
  own_retW X hx hlk hS hk hret rfl (Or.inl ⟨rfl, Or.inl rfl, z, rfl⟩) hd hK hN hQ
theorem own_retWZ (X : Stand p l e R (s.setVm vm) m args below meth c T locs cells slots) (hx : p.tables.exec = Jvm.exec) (hlk : meth.locks = false) (hS : s.Since vm kk) (hk : kk ≤ T.heap.size) {K N pc : Nat} {Ls : Array Slot} {z : Int32} {rest : List Value} {Q : Option Value → Heap → List Loc → Prop} (hret : meth.sig.returnType = some .boolean)
    (hd : decode c.code pc = .ok (.ireturn, 1)) (hz : z = 0 ∨ z = 1) (hK : cells ≤ K) (hN : slots ≤ N) (hQ : Q (some (.int z)) T.heap locs) :
    own_G p.tables e below (fun o U' => ∃ v L, o = .returned v ∧ Q v U'.heap L ∧ ReturnedEndW s o U' L K N) (T.setTop (mkF m pc Ls (.int z :: rest))) :=
  own_retW X hx hlk hS hk hret (by rcases hz with rfl | rfl <;> rfl) (Or.inl ⟨rfl, Or.inr (Or.inl rfl), z, rfl⟩) hd hK hN hQ
theorem own_retWA (X : Stand p l e R (s.setVm vm) m args below meth c T locs cells slots) (hx : p.tables.exec = Jvm.exec) (hlk : meth.locks = false) (hS : s.Since vm kk) (hk : kk ≤ T.heap.size) {K N pc : Nat} {Ls : Array Slot} {w : Value} {t : FieldType} {rest : List Value} {Q : Option Value → Heap → List Loc → Prop} (hret : meth.sig.returnType = some t) (ht : t.isReference = true) (hw : w.isRef = true)
    (hd : decode c.code pc = .ok (.areturn, 1)) (hK : cells ≤ K) (hN : slots ≤ N) (hQ : Q (some w) T.heap locs) :
    own_G p.tables e below (fun o U' => ∃ v L, o = .returned v ∧ Q v U'.heap L ∧ ReturnedEndW s o U' L K N) (T.setTop (mkF m pc Ls (w :: rest))) :=
  own_retW X hx hlk hS hk hret (by cases t <;> first | (cases ht; done) | (rcases ref_cases hw with rfl | ⟨z, rfl⟩ <;> rfl)) (Or.inr (Or.inr (Or.inr (Or.inr ⟨rfl, ht, hw⟩)))) hd hK hN hQ
theorem own_retWV (X : Stand p l e R (s.setVm vm) m args below meth c T locs cells slots) (hx : p.tables.exec = Jvm.exec) (hlk : meth.locks = false) (hS : s.Since vm kk) (hk : kk ≤ T.heap.size) {K N pc : Nat} {Ls : Array Slot} {Q : Option Value → Heap → List Loc → Prop} (hret : meth.sig.returnType = none)
    (hd : decode c.code pc = .ok (.return_, 1)) (hK : cells ≤ K) (hN : slots ≤ N) (hQ : Q none T.heap locs) :
    own_G p.tables e below (fun o U' => ∃ v L, o = .returned v ∧ Q v U'.heap L ∧ ReturnedEndW s o U' L K N) (T.setTop (mkF m pc Ls [])) := by
  obtain ⟨fs, hr, hrun, hended, a, b, d, f⟩ := X.leaveW hS hk (v := none) (fun _ => rfl) hlk
  exact ⟨_, _, X.returnOut hx hret hd hr, hrun, hended, _, _, rfl, hQ, a, b, d, f.mono hK hN⟩
end OwnW
/-! own layer: int arrays of which only the length is known -/
def own_An (Z : State) (h : Heap) (a : Addr) (N : Nat) : Prop := ∃ c : Cell, Arr Z h a c .int ∧ c.slots.size = N
section OwnAn
variable {Z : State} {h h' : Heap} {a b : Addr} {N : Nat}
theorem own_An_new {cA : ClassId} {n : Int32} (A : Arr Z h a (newA cA .int n) .int) (hN : n.toNatClampNeg = N) : own_An Z h a N := ⟨_, A, by rw [sz_new, hN]⟩
theorem own_An_ext (F : own_An Z h a N) (E : Ext h h') : own_An Z h' a N := by obtain ⟨c, A, r⟩ := F; exact ⟨c, A.ext E, r⟩
theorem own_An_other {sl : Nat} {v : Value} (F : own_An Z h b N) (W : Wr h h' a sl v) (q : b ≠ a) : own_An Z h' b N := by obtain ⟨c, A, r⟩ := F; exact ⟨c, A.other W q, r⟩
theorem own_An_keep {ws : List Addr} (F : own_An Z h a N) (K : Keep h h' ws) (q : a ∉ ws) : own_An Z h' a N := by obtain ⟨c, A, r⟩ := F; exact ⟨c, ⟨K.2.1 a c A.1 q, A.2⟩, r⟩
theorem own_An_lt (F : own_An Z h a N) : a < h.size := by obtain ⟨c, A, -⟩ := F; exact A.lt
theorem own_An_same {i : Nat} {v : Value} (F : own_An Z h a N) (W : Wr h h' a i v) : own_An Z h' a N := by
  obtain ⟨c, A, r⟩ := F
  exact ⟨_, A.same W, by rw [sz_set]; exact r⟩
variable {p : Program} {l : Launch} {e : Env} {R : Room} {s : State} {m : MethodId} {args : Array Value} {below : List Frame} {meth : Method} {c : Code} {T : State} {locs : List Loc} {cells slots : Nat}
theorem own_stN (X : Stand p l e R s m args below meth c T locs cells slots) (hx : p.tables.exec = Jvm.exec) (hZ : Z.Warmed39 s.vm) (eT : T.heap = h) (F : own_An Z h a N) {j x : Int32} (hj : ¬ j < 0) (hl : j.toNatClampNeg < N)
    {g : JFrame} (hg : g.method = m) {rest : List Value} (hs : g.stack = .int x :: .int j :: .ref a :: rest) (hd : decode c.code g.pc = .ok (.iastore, 1)) :
    ∃ T' h', Stand p l e R s m args below meth c T' (locs ++ [⟨a, j.toNatClampNeg⟩]) cells slots ∧ T'.heap = h' ∧ Wr h h' a j.toNatClampNeg (.int x) ∧ own_An Z h' a N ∧ ∀ target, Steps p.tables e below (T'.setTop { g with pc := g.pc + 1, stack := rest }) target → Steps p.tables e below (T.setTop g) target := by
  obtain ⟨cl, A, r⟩ := F
  obtain ⟨T', h', X', e', W, st⟩ := stI X hx hZ eT A (fun q => q.elim hj (fun z => by rw [r] at z; exact absurd hl (Nat.not_lt.mpr z))) hg hs hd
  exact ⟨T', h', X', e', W, own_An_same ⟨cl, A, r⟩ W, st⟩
theorem own_alenN (X : Stand p l e R s m args below meth c T locs cells slots) (hx : p.tables.exec = Jvm.exec) (hZ : Z.Warmed39 s.vm) (eT : T.heap = h) (F : own_An Z h a N) {g : JFrame} (hg : g.method = m) {rest : List Value} (hs : g.stack = .ref a :: rest) (hd : decode c.code g.pc = .ok (.arraylength, 1)) :
    ∀ target, Steps p.tables e below (T.setTop { g with pc := g.pc + 1, stack := .int N.toInt32 :: rest }) target → Steps p.tables e below (T.setTop g) target := by
  obtain ⟨cl, A, r⟩ := F
  rw [← r]
  exact fun t k => X.arraylength hx (by rw [eT]; exact A.1) (State.isArrayOf_alike hZ.alike A.2.1) hg hs hd t k
end OwnAn
theorem own_notinst {Z : State} {a0 : Array Value} {O K : String} {n : Nat} (w : (Jvm.Cond.noSuperclass O).before a0 Z = true) (wi : (Jvm.Cond.instantiable K n).before a0 Z = true) (hn : O ≠ K) : NS Z O K := by
  obtain ⟨t, kt, g1, g2, -⟩ := Cond.instantiable_spec wi
  obtain ⟨c, k, h1, h2, h3, -⟩ := Cond.noSuperclass_spec w
  have hne : c ≠ t := ids_ne h1 g1 hn
  refine ⟨c, t, h1, g1, ?_⟩
  intro fuel
  induction fuel with
  | zero => rfl
  | succ f _ => simp [Vm.isSubclassAux, hne, h2, h3]
theorem own_noasg {Z : State} {a0 : Array Value} {C S K : String} {n : Nat} (w : (Jvm.Cond.superclass C S).before a0 Z = true) (wi : (Jvm.Cond.instantiable K n).before a0 Z = true) (q : NS Z C K) (hn : C ≠ K) : ∃ c t, Z.vm.findClass C = some c ∧ Z.vm.findClass K = some t ∧ Z.vm.assignable c t = false := by
  obtain ⟨c, t, h0, g0, n3⟩ := q
  obtain ⟨t', kt, g1, g2, g3, g4, -⟩ := Cond.instantiable_spec wi
  cases g0.symm.trans g1
  obtain ⟨p, k, kp, h1, h2, h3, h4, h5, -, h7⟩ := Cond.superclass_spec h0 w
  have hne : c ≠ t := ids_ne h0 g0 hn
  have g5 : kt.isInterface = false := by simp only [Bool.or_eq_false_iff] at g4; exact g4.1
  refine ⟨c, t, h0, g0, ?_⟩
  show Z.vm.assignableAux (255 + 1) c t = false
  simp [Vm.assignableAux, hne, h2, g2, h5, g3, g5, Vm.isSubclass, n3]
theorem own_selp {Z s : State} {a0 args : Array Value} {y : MethodName} {n : Nat} (hZ : Z.Warmed39 s.vm) (wi : (Jvm.Cond.instantiable y.cls n).before a0 Z = true) (wp : (Jvm.Cond.privateMethod y).before a0 Z = true) (wm : (Jvm.Cond.instanceMethod y).before a0 Z = true) (hy : y.cls ≠ "java/lang/invoke/MethodHandle" ∧ y.cls ≠ "java/lang/invoke/VarHandle") : (Jvm.Cond.selects y.cls y y).before args s = true := by
  obtain ⟨c, k, h1, h2, -, h4, -⟩ := Cond.instantiable_spec (mv (args := args) hZ wi)
  simp only [Bool.or_eq_false_iff] at h4
  exact selects_self_of_private h1 h2 h4.1 (Cond.privateMethod_at (mvP hZ wp (args := args))) (mv hZ wm) hy
/-! own layer: a static method named through a subclass; a field read through a resolved entry -/
theorem own_dup2L {tb : Tables} [Ours tb] {e : Env} {below : List Frame} {T target : State} {m : MethodId} {c : Code} {g : JFrame} (h : At T m c below) (hx : tb.exec = Jvm.exec) (hg : g.method = m) {x : Value} {rest : List Value} (hd : decode c.code g.pc = .ok (.dup2, 1)) (hs : g.stack = x :: rest) (hc : x.category = 2)
    (hr : Steps tb e below (T.setTop { g with pc := g.pc + 1, stack := x :: x :: rest }) target) : Steps tb e below (T.setTop g) target := by
  subst hg
  jvm_step h [h.top, hx, hd, hs, hc]
  exact hr
section OwnUp
variable {Z : State} {a0 : Array Value} {h : Heap} {p : Program} {l : Launch} {e : Env} {R : Room} {s : State} {m : MethodId} {args : Array Value} {below : List Frame} {meth : Method} {c : Code} {T : State} {locs : List Loc} {cells slots : Nat}
theorem own_callUp (X : Stand p l e R s m args below meth c T locs cells slots) (hx : p.tables.exec = Jvm.exec) {own owner : String} {index : Nat} {x : MethodName} {bytes : ByteArray} {maxL : Nat} {ret : Option FieldType}
    (hown : s.vm.findClass own = some m.cls) (hlink : (Jvm.Cond.methodLink own index x).before args s = true) (hsame : (Jvm.Cond.sameMethod x.cls owner x.name x.desc).before args s = true)
    (hstat : (Jvm.Cond.static ⟨owner, x.name, x.desc⟩).before args s = true) (hinit : (Jvm.Cond.initialized owner).before args s = true) (hcode : (Jvm.Cond.code ⟨owner, x.name, x.desc⟩ bytes maxL ret).before args s = true)
    (howner : owner ≠ "java/lang/invoke/MethodHandle" ∧ owner ≠ "java/lang/invoke/VarHandle")
    {W : Nat} {Pre : Pt → Array Value → Prop} {Post : Pt → Array Value → Option Value → Pt → Prop} (hK : Back l R p e below s args ⟨owner, x.name, x.desc⟩ 3 W Pre Post)
    {g : JFrame} (hg : g.method = m) (hsize : g.locals.size = c.maxLocals) {argsL rest : List Value}
    (hlen : ∀ sig, parseMethodDescriptor x.desc = some sig → argsL.length = sig.parameters.length) (hstack : g.stack = argsL.reverse ++ rest) (hW : 2 * g.monitorRoom + (rest.map fun v => v.category).sum ≤ W)
    (hdg : decode c.code g.pc = .ok (.invokestatic index, 3)) (hpre : ∀ vm₁, s.WarmedH vm₁ → Pre ⟨T.setVm vm₁, locs, cells, slots⟩ argsL.toArray) :
    ∃ (v : Option Value) (vm₁ : Vm) (B : Pt), s.WarmedH vm₁ ∧ Stand p l e R s m args below meth c B.U B.locs B.cells B.slots ∧ Post ⟨T.setVm vm₁, locs, cells, slots⟩ argsL.toArray v B ∧
      Steps p.tables e below (T.setTop g) (B.U.setTop { g with pc := g.pc + 3, stack := v.toList ++ rest }) := by
  obtain ⟨mk, hnamed⟩ := Cond.code_named hcode
  obtain ⟨methM, cM, hmethM, -, -, -, -, -, -, hsig⟩ := Cond.code_spec hnamed hcode
  exact X.staticBackUp hx hown hlink hsame hstat hinit hnamed hmethM hsig howner hK hg hsize (Steps.refl _) hlen hstack hW hdg hpre
theorem own_getFR (X : Stand p l e R s m args below meth c T locs cells slots) (hx : p.tables.exec = Jvm.exec) (hZ : Z.Warmed39 s.vm) {own O n d : String} {index : Nat} (hown : s.vm.findClass own = some m.cls) (w : (Jvm.Cond.fieldRef own index O n d).before a0 Z = true)
    (eT : T.heap = h) {a : Addr} {v : Value} (F : Fld Z h a O n d v) {g : JFrame} (hg : g.method = m) {rest : List Value} (hs : g.stack = .ref a :: rest) (hd : decode c.code g.pc = .ok (.getfield index, 3)) :
    ∀ target, Steps p.tables e below (T.setTop { g with pc := g.pc + 3, stack := v :: rest }) target → Steps p.tables e below (T.setTop g) target := by
  have hU : Z.Warmed39 T.vm := wtrans hZ X.warmed
  have w1 : (Jvm.Cond.fieldRef own index O n d).before a0 (Z.setVm T.vm) = true := Cond.fieldRef_warmed39 hU w
  have hc : (Z.setVm T.vm).vm.findClass own = some m.cls := by
    show T.vm.findClass own = _
    rw [X.warmed.alike.findClass]
    exact hown
  obtain ⟨c', k', i', f', e1, e2⟩ := Cond.fieldRef_spec hc w1
  obtain ⟨cell, cf, k, i, f, h1, h2, h3, h4, -, -, h7⟩ := F
  obtain ⟨k2, hi, -⟩ := State.fieldFound?_setVm (s := Z) hU.alike h2
  cases e1.symm.trans hi
  exact fun t k => (X.getfieldR hx hg e2 h3 hs (by rw [eT]; exact h1) h4 h7 hd (Steps.refl _)).trans k
end OwnUp
abbrev own_y1 : MethodName := ⟨"java/util/Objects", "requireNonNull", "(Ljava/lang/Object;Ljava/lang/String;)Ljava/lang/Object;"⟩
abbrev own_y2 : MethodName := ⟨"java/util/Map", "of", "()Ljava/util/Map;"⟩
abbrev own_y3 : MethodName := ⟨"com/example/sluicegate/sluicegate/rule/HotParameterRule", "<init>", "(Ljava/lang/String;IILcom/example/sluicegate/sluicegate/rule/HotParameterRule$Counts;IILcom/example/sluicegate/sluicegate/rule/HotParameterRule$Behaviour;JLjava/util/Map;)V"⟩
abbrev own_y4 : MethodName := ⟨"java/lang/Number", "<init>", "()V"⟩
abbrev own_y5 : MethodName := ⟨"java/util/AbstractMap", "<init>", "()V"⟩
abbrev own_y6 : MethodName := ⟨"com/example/sluicegate/sluicegate/rule/SpinLock", "<init>", "(I)V"⟩
abbrev own_y7 : MethodName := ⟨"java/util/HashMap", "<init>", "()V"⟩
abbrev own_y8 : MethodName := ⟨"com/example/sluicegate/sluicegate/rule/ValueShards$Shard", "<init>", "(I)V"⟩
abbrev own_y9 : MethodName := ⟨"com/example/sluicegate/sluicegate/rule/ValueShards", "<init>", "()V"⟩
abbrev own_y10 : MethodName := ⟨"java/util/concurrent/atomic/AtomicInteger", "<init>", "()V"⟩
abbrev own_y11 : MethodName := ⟨"java/util/concurrent/atomic/AtomicLong", "<init>", "()V"⟩
abbrev own_y12 : MethodName := ⟨"com/example/sluicegate/sluicegate/rule/HotParameterRule", "durationSeconds", "()I"⟩
abbrev own_y13 : MethodName := ⟨"java/util/concurrent/TimeUnit", "toMillis", "(J)J"⟩
abbrev own_y14 : MethodName := ⟨"com/example/sluicegate/sluicegate/rule/HotValues", "<init>", "(Lcom/example/sluicegate/sluicegate/rule/HotParameterRule;)V"⟩
abbrev own_y15 : MethodName := ⟨"java/util/concurrent/TimeUnit", "toNanos", "(J)J"⟩
abbrev own_y16 : MethodName := ⟨"com/example/sluicegate/sluicegate/rule/HotParameterRule", "maxQueueingMillis", "()J"⟩
abbrev own_y17 : MethodName := ⟨"java/lang/Math", "max", "(JJ)J"⟩
abbrev own_y18 : MethodName := ⟨"com/example/sluicegate/sluicegate/rule/PacedValues", "scaled", "(JJJLjava/math/RoundingMode;)J"⟩
abbrev own_y19 : MethodName := ⟨"com/example/sluicegate/sluicegate/rule/Slot", "fromNanos", "()J"⟩
abbrev own_y20 : MethodName := ⟨"com/example/sluicegate/sluicegate/rule/Slot", "waitNanos", "()J"⟩
abbrev own_y21 : MethodName := ⟨"com/example/sluicegate/sluicegate/rule/PacedValues", "permitNanos", "(J)J"⟩
abbrev own_y22 : MethodName := ⟨"java/lang/Math", "min", "(JJ)J"⟩
abbrev own_y23 : MethodName := ⟨"com/example/sluicegate/sluicegate/rule/HotValues$Kept", "<init>", "(Ljava/lang/Object;Lcom/example/sluicegate/sluicegate/rule/ValueShards$Shard;JJJ)V"⟩
abbrev own_y24 : MethodName := ⟨"com/example/sluicegate/sluicegate/rule/PacedValues", "calledNanos", "(Lcom/example/sluicegate/sluicegate/rule/Slot;J)J"⟩
abbrev own_y25 : MethodName := ⟨"com/example/sluicegate/sluicegate/rule/Slot", "slotNanos", "()J"⟩
abbrev own_y26 : MethodName := ⟨"com/example/sluicegate/sluicegate/rule/PacedValues$Latest", "<init>", "(Ljava/lang/Object;Lcom/example/sluicegate/sluicegate/rule/ValueShards$Shard;JJJJ)V"⟩
abbrev own_y27 : MethodName := ⟨"java/lang/Math", "max", "(II)I"⟩
abbrev own_y28 : MethodName := ⟨"com/example/sluicegate/sluicegate/rule/HotParameterRule", "<init>", "(Ljava/lang/String;II)V"⟩
abbrev own_y29 : MethodName := ⟨"com/example/sluicegate/sluicegate/rule/HotParameterRule", "withDurationSeconds", "(I)Lcom/example/sluicegate/sluicegate/rule/HotParameterRule;"⟩
abbrev own_y30 : MethodName := ⟨"com/example/sluicegate/sluicegate/rule/HotParameterRule", "withUniformQueueing", "(J)Lcom/example/sluicegate/sluicegate/rule/HotParameterRule;"⟩
abbrev own_y31 : MethodName := ⟨"com/example/sluicegate/sluicegate/rule/PacedValues", "<init>", "(Lcom/example/sluicegate/sluicegate/rule/HotParameterRule;)V"⟩
abbrev own_y32 : MethodName := ⟨"com/example/sluicegate/sluicegate/rule/Slot", "<init>", "(J)V"⟩
abbrev own_y33 : MethodName := ⟨"com/example/sluicegate/sluicegate/rule/Slot", "waitAtLeast", "(J)V"⟩
abbrev own_y34 : MethodName := ⟨"com/example/sluicegate/sluicegate/rule/PacedValues", "made", "(Ljava/lang/Object;Lcom/example/sluicegate/sluicegate/rule/ValueShards$Shard;JJJLcom/example/sluicegate/sluicegate/rule/Slot;J)Lcom/example/sluicegate/sluicegate/rule/HotValues$Kept;"⟩
abbrev own_y35 : MethodName := ⟨"com/example/sluicegate/sluicegate/rule/PacedValues", "freshFrom", "(Lcom/example/sluicegate/sluicegate/rule/HotValues$Kept;J)J"⟩
abbrev own_y36 : MethodName := ⟨"com/example/sluicegate/sluicegate/rule/HotValues", "scaled", "(JJJLjava/math/RoundingMode;)J"⟩
theorem own_pd1 : parseMethodDescriptor "(Ljava/lang/Object;Ljava/lang/String;)Ljava/lang/Object;" = some ⟨[(.object "java/lang/Object"), (.object "java/lang/String")], (some (.object "java/lang/Object"))⟩ := by decide +kernel
theorem own_pd2 : parseMethodDescriptor "()Ljava/util/Map;" = some ⟨[], (some (.object "java/util/Map"))⟩ := by decide +kernel
theorem own_pd3 : parseMethodDescriptor "(Ljava/lang/String;IILcom/example/sluicegate/sluicegate/rule/HotParameterRule$Counts;IILcom/example/sluicegate/sluicegate/rule/HotParameterRule$Behaviour;JLjava/util/Map;)V" = some ⟨[(.object "java/lang/String"), .int, .int, (.object "com/example/sluicegate/sluicegate/rule/HotParameterRule$Counts"), .int, .int, (.object "com/example/sluicegate/sluicegate/rule/HotParameterRule$Behaviour"), .long, (.object "java/util/Map")], none⟩ := by decide +kernel
theorem own_pd4 : parseMethodDescriptor "()V" = some ⟨[], none⟩ := by decide +kernel
theorem own_pd5 : parseMethodDescriptor "(I)V" = some ⟨[.int], none⟩ := by decide +kernel
theorem own_pd6 : parseMethodDescriptor "()I" = some ⟨[], (some .int)⟩ := by decide +kernel
theorem own_pd7 : parseMethodDescriptor "(J)J" = some ⟨[.long], (some .long)⟩ := by decide +kernel
theorem own_pd8 : parseMethodDescriptor "(Lcom/example/sluicegate/sluicegate/rule/HotParameterRule;)V" = some ⟨[(.object "com/example/sluicegate/sluicegate/rule/HotParameterRule")], none⟩ := by decide +kernel
theorem own_pd9 : parseMethodDescriptor "()J" = some ⟨[], (some .long)⟩ := by decide +kernel
theorem own_pd10 : parseMethodDescriptor "(JJ)J" = some ⟨[.long, .long], (some .long)⟩ := by decide +kernel
theorem own_pd11 : parseMethodDescriptor "(JJJLjava/math/RoundingMode;)J" = some ⟨[.long, .long, .long, (.object "java/math/RoundingMode")], (some .long)⟩ := by decide +kernel
theorem own_pd12 : parseMethodDescriptor "(Ljava/lang/Object;Lcom/example/sluicegate/sluicegate/rule/ValueShards$Shard;JJJ)V" = some ⟨[(.object "java/lang/Object"), (.object "com/example/sluicegate/sluicegate/rule/ValueShards$Shard"), .long, .long, .long], none⟩ := by decide +kernel
theorem own_pd13 : parseMethodDescriptor "(Lcom/example/sluicegate/sluicegate/rule/Slot;J)J" = some ⟨[(.object "com/example/sluicegate/sluicegate/rule/Slot"), .long], (some .long)⟩ := by decide +kernel
theorem own_pd14 : parseMethodDescriptor "(Ljava/lang/Object;Lcom/example/sluicegate/sluicegate/rule/ValueShards$Shard;JJJJ)V" = some ⟨[(.object "java/lang/Object"), (.object "com/example/sluicegate/sluicegate/rule/ValueShards$Shard"), .long, .long, .long, .long], none⟩ := by decide +kernel
theorem own_pd15 : parseMethodDescriptor "(II)I" = some ⟨[.int, .int], (some .int)⟩ := by decide +kernel
theorem own_pd16 : parseMethodDescriptor "(Ljava/lang/String;II)V" = some ⟨[(.object "java/lang/String"), .int, .int], none⟩ := by decide +kernel
theorem own_pd17 : parseMethodDescriptor "(I)Lcom/example/sluicegate/sluicegate/rule/HotParameterRule;" = some ⟨[.int], (some (.object "com/example/sluicegate/sluicegate/rule/HotParameterRule"))⟩ := by decide +kernel
theorem own_pd18 : parseMethodDescriptor "(J)Lcom/example/sluicegate/sluicegate/rule/HotParameterRule;" = some ⟨[.long], (some (.object "com/example/sluicegate/sluicegate/rule/HotParameterRule"))⟩ := by decide +kernel
theorem own_pd19 : parseMethodDescriptor "(J)V" = some ⟨[.long], none⟩ := by decide +kernel
theorem own_pd20 : parseMethodDescriptor "(Ljava/lang/Object;Lcom/example/sluicegate/sluicegate/rule/ValueShards$Shard;JJJLcom/example/sluicegate/sluicegate/rule/Slot;J)Lcom/example/sluicegate/sluicegate/rule/HotValues$Kept;" = some ⟨[(.object "java/lang/Object"), (.object "com/example/sluicegate/sluicegate/rule/ValueShards$Shard"), .long, .long, .long, (.object "com/example/sluicegate/sluicegate/rule/Slot"), .long], (some (.object "com/example/sluicegate/sluicegate/rule/HotValues$Kept"))⟩ := by decide +kernel
theorem own_pd21 : parseMethodDescriptor "(Lcom/example/sluicegate/sluicegate/rule/HotValues$Kept;J)J" = some ⟨[(.object "com/example/sluicegate/sluicegate/rule/HotValues$Kept"), .long], (some .long)⟩ := by decide +kernel

def own_min (x y : Int32) : Int32 := if y < x then y else x
def own_max (x y : Int32) : Int32 := if x < y then y else x
theorem own_min_spec (x y : Int32) : (own_min x y).toInt = min x.toInt y.toInt := by
  unfold own_min
  split
  · rename_i h; rw [Int32.lt_iff_toInt_lt] at h; omega
  · rename_i h; rw [Int32.lt_iff_toInt_lt] at h; omega
theorem own_max_spec (x y : Int32) : (own_max x y).toInt = max x.toInt y.toInt := by
  unfold own_max
  split
  · rename_i h; rw [Int32.lt_iff_toInt_lt] at h; omega
  · rename_i h; rw [Int32.lt_iff_toInt_lt] at h; omega
theorem own_hws {Z : State} {a0 : Array Value} (hw : ∀ d ∈ tables_1, d.before a0 Z = true) : ∀ a ∈ Bundle.stringAtoms, a.before a0 Z = true := by
  intro a ha
  simp only [Bundle.stringAtoms, List.mem_cons, List.not_mem_nil, or_false] at ha
  rcases ha with rfl | rfl | rfl | rfl | rfl | rfl | rfl
  · exact hw _ (List.mem_of_getElem? (i := 12) rfl)
  · exact hw _ (List.mem_of_getElem? (i := 13) rfl)
  · exact hw _ (List.mem_of_getElem? (i := 14) rfl)
  · exact hw _ (List.mem_of_getElem? (i := 15) rfl)
  · exact hw _ (List.mem_of_getElem? (i := 16) rfl)
  · exact hw _ (List.mem_of_getElem? (i := 17) rfl)
  · exact hw _ (List.mem_of_getElem? (i := 18) rfl)

def own_maxL (x y : Int64) : Int64 := if x < y then y else x
def own_nan (x sc mx : Int64) : Int64 := if mx < x then (9223372036854775807 : Int64) else (x * sc)
def own_fresh (sn dn : Int64) : Int64 := if ((9223372036854775807 : Int64) - dn) < sn then (9223372036854775807 : Int64) else (sn + dn)
theorem own_dge (x : Int32) : ¬ (own_max (1 : Int32) (x &&& (2147483647 : Int32))) < (1 : Int32) := by
  have q := own_max_spec (1 : Int32) (x &&& (2147483647 : Int32))
  have e : (1 : Int32).toInt = 1 := by decide
  rw [Int32.lt_iff_toInt_lt, q, e]
  omega
theorem own_lne (x : Int32) : ¬ ((1 : Int64) + ((x.toInt64) &&& (2147483647 : Int64))) = (0 : Int64) := by
  intro q
  have m := c_maskL (x.toInt64) (2147483647 : Int64) 31 (by decide) (by decide)
  have a := c_ladd (1 : Int64) ((x.toInt64) &&& (2147483647 : Int64))
  rw [q, m] at a
  have e : (1 : Int64).toInt = 1 := by decide
  have e0 : (0 : Int64).toInt = 0 := by decide
  have p8 : ((2 ^ 31 : Nat) : Int) = 2147483648 := by decide
  rw [e, e0, p8] at a
  omega
theorem own_mskn (x : Int64) : ¬ (x &&& (9223372036854775807 : Int64)) < (0 : Int64) := by
  have m := c_maskL x (9223372036854775807 : Int64) 63 (by decide) (by decide)
  have e0 : (0 : Int64).toInt = 0 := by decide
  have p8 : ((2 ^ 63 : Nat) : Int) = 9223372036854775808 := by decide
  rw [Int64.lt_iff_toInt_lt, m, e0, p8]
  omega
theorem own_pos {d : Int32} (h : ¬ d < (1 : Int32)) : 1 ≤ d.toInt ∧ d.toInt < 2147483648 ∧ d.toInt64.toInt = d.toInt := by
  have e : (1 : Int32).toInt = 1 := by decide
  rw [Int32.lt_iff_toInt_lt, e] at h
  have r := rng32 d
  exact ⟨by omega, by omega, c_i2l d⟩
theorem own_neg1 {d : Int32} (h : ¬ d < (1 : Int32)) : ¬ d.toInt64 < (-(9223372036854775 : Int64)) := by
  have q := own_pos h
  have e : (-(9223372036854775 : Int64)).toInt = -9223372036854775 := by decide
  rw [Int64.lt_iff_toInt_lt, e]
  omega
theorem own_neg2 {d : Int32} (h : ¬ d < (1 : Int32)) : ¬ d.toInt64 < (-(9223372036 : Int64)) := by
  have q := own_pos h
  have e : (-(9223372036 : Int64)).toInt = -9223372036 := by decide
  rw [Int64.lt_iff_toInt_lt, e]
  omega
theorem own_neg3 {x : Int64} (h : ¬ x < (0 : Int64)) : ¬ x < (-(9223372036854 : Int64)) := by
  have e : (-(9223372036854 : Int64)).toInt = -9223372036854 := by decide
  have e0 : (0 : Int64).toInt = 0 := by decide
  rw [Int64.lt_iff_toInt_lt, e0] at h
  rw [Int64.lt_iff_toInt_lt, e]
  omega
theorem own_ne0 {x : Int64} (h : 0 < x.toInt) : ¬ x = (0 : Int64) := by
  intro q
  have q2 := congrArg Int64.toInt q
  have e0 : (0 : Int64).toInt = 0 := by decide
  rw [e0] at q2
  omega
theorem own_dv1 {x : Int64} (h : 0 < x.toInt) (h2 : x.toInt ≤ 9223372036854775807) : ¬ ((9223372036854775807 : Int64) / x) < (1 : Int64) := by
  have em : (9223372036854775807 : Int64).toInt = 9223372036854775807 := by decide
  have e1 : (1 : Int64).toInt = 1 := by decide
  have n1 : x ≠ -1 := by
    intro q
    have q2 := congrArg Int64.toInt q
    have e : (-1 : Int64).toInt = -1 := by decide
    rw [e] at q2
    omega
  have dv := (c_ldiv (9223372036854775807 : Int64) x x.toInt rfl n1).1 (by rw [em]; decide)
  rw [em] at dv
  have k : (1 : Int) ≤ 9223372036854775807 / x.toInt := (Int.le_ediv_iff_mul_le h).mpr (by omega)
  rw [Int64.lt_iff_toInt_lt, dv, e1]
  exact Int.not_lt.mpr k
theorem own_dnv {d : Int32} {dn : Int64} (h : ¬ d < (1 : Int32)) (hn : dn = own_nan (d.toInt64) (1000000000 : Int64) (9223372036 : Int64)) : ¬ dn = (0 : Int64) ∧ ¬ ((9223372036854775807 : Int64) / dn) < (1 : Int64) ∧ dn = d.toInt64 * (1000000000 : Int64) ∧ dn.toInt = d.toInt * 1000000000 := by
  have q := own_pos h
  have e : (9223372036 : Int64).toInt = 9223372036 := by decide
  have hl : ¬ (9223372036 : Int64) < d.toInt64 := by
    rw [Int64.lt_iff_toInt_lt, e]
    omega
  rw [own_nan, if_neg hl] at hn
  have m := c_lmul (d.toInt64) (1000000000 : Int64)
  have e9 : (1000000000 : Int64).toInt = 1000000000 := by decide
  have r := rng64 (d.toInt64 * (1000000000 : Int64))
  rw [e9, ← hn] at m
  rw [← hn] at r
  have hd : dn.toInt = d.toInt * 1000000000 := by omega
  have hpos : 0 < dn.toInt ∧ dn.toInt ≤ 9223372036854775807 := by omega
  exact ⟨own_ne0 hpos.1, own_dv1 hpos.1 hpos.2, hn, hd⟩
theorem own_mx0 {w : Int64} (h : ¬ w < (0 : Int64)) : own_maxL (0 : Int64) w = w := by
  unfold own_maxL
  split
  · rfl
  · rename_i h2
    have e0 : (0 : Int64).toInt = 0 := by decide
    rw [Int64.lt_iff_toInt_lt, e0] at h h2
    exact Int64.toInt_inj.mp (by rw [e0]; omega)
theorem own_fin {d : Int32} {dn wv fv z140 z147 z156 z163 : Int64} (h : ¬ d < (1 : Int32)) (hn : dn = own_nan (d.toInt64) (1000000000 : Int64) (9223372036 : Int64)) (hw : ¬ wv < (0 : Int64)) (h140 : z140 = own_fresh (fv + (own_maxL (0 : Int64) wv)) dn) (h147 : z147 = (fv + wv)) (h156 : z156 = ((d.toInt64) * (1000000000 : Int64))) (h163 : z163 = (z147 + z156)) :
    (¬ z163 < z147 → z140 = z163) ∧ (z163 < z147 → z140 = (9223372036854775807 : Int64)) := by
  obtain ⟨-, -, k1, k2⟩ := own_dnv h hn
  have q := own_pos h
  rw [own_mx0 hw, ← h147] at h140
  rw [← k1] at h156
  subst h156
  have a := c_ladd z147 z156
  rw [← h163] at a
  have b := c_lsub (9223372036854775807 : Int64) z156
  have em : (9223372036854775807 : Int64).toInt = 9223372036854775807 := by decide
  rw [em] at b
  have r1 := rng64 z147
  have r2 := rng64 z163
  have r3 := rng64 ((9223372036854775807 : Int64) - z156)
  refine ⟨fun c => ?_, fun c => ?_⟩
  · rw [h140, own_fresh, if_neg ?_, ← h163]
    rw [Int64.lt_iff_toInt_lt] at c ⊢
    omega
  · rw [h140, own_fresh, if_pos ?_]
    rw [Int64.lt_iff_toInt_lt] at c ⊢
    omega

theorem own_eqlong {t : Term} {n : Int64} {args : Array Value} {s : State} (h : (Jvm.Cond.eq t (Term.long n)).value args s none s [] = some true) : t.eval args s none [] s = some (.long n) := by
  have hb : (Term.long n).eval args s none [] s = some (.long n) := rfl
  simp only [Jvm.Cond.value, hb] at h
  cases ht : t.eval args s none [] s with
  | none => simp [ht] at h
  | some v => cases v <;> simp [ht] at h ⊢; exact h

theorem own_mmax_d0 : decode jdk_29_method_65_code 0 = .ok (.iload_n 0, 1) := by decide +kernel
theorem own_mmax_d1 : decode jdk_29_method_65_code 1 = .ok (.iload_n 1, 1) := by decide +kernel
theorem own_mmax_d2 : decode jdk_29_method_65_code 2 = .ok (.if_icmp .lt 7, 3) := by decide +kernel
theorem own_mmax_d5 : decode jdk_29_method_65_code 5 = .ok (.iload_n 0, 1) := by decide +kernel
theorem own_mmax_d6 : decode jdk_29_method_65_code 6 = .ok (.goto 4, 3) := by decide +kernel
theorem own_mmax_d9 : decode jdk_29_method_65_code 9 = .ok (.iload_n 1, 1) := by decide +kernel
theorem own_mmax_d10 : decode jdk_29_method_65_code 10 = .ok (.ireturn, 1) := by decide +kernel
theorem own_mmax_ef (m : MethodId) (pa : Int32) (pb : Int32) : entryFrame m #[(.int pa), (.int pb)] 2 = mkF m 0 #[iv pa, iv pb] [] := by first | (simp [entryFrame, mkF, argsToLocals, Value.category]; done) | rfl
def own_mmax_Q (Z : State) (pa : Int32) (pb : Int32) (h0 : Heap) (n0 : Nat) (v : Option Value) (h : Heap) (L : List Loc) : Prop := v = some (.int (own_max pa pb)) ∧ Fr n0 L ∧ h = h0
set_option maxRecDepth 65536 in
set_option maxHeartbeats 40000000 in
theorem own_mmax (l : Launch) (Z : State) (a0 : Array Value) (hw : ∀ d ∈ tables_1, d.before a0 Z = true) (ws : List Jvm.Cond) (pa : Int32) (pb : Int32) (h0 : Heap) (n0 : Nat) :
    MetFree l own_y27 (head1 (Jvm.Cond.code own_y27 jdk_29_method_65_code 2 (some .int) :: ws) ({ frames := 0, cells := 0, slots := 0, locals := 0 } : Room)) (fun a U => a = #[(.int pa), (.int pb)] ∧ Z.Warmed39 U.vm ∧ U.heap = h0) (fun _ _ _ _ _ => True) (fun _ U o U' => ∃ v L, o = .returned v ∧ (own_mmax_Q Z pa pb h0 n0) v U'.heap L ∧ FrameEnd U o U' L ({ frames := 0, cells := 0, slots := 0, locals := 0 } : Room).cells ({ frames := 0, cells := 0, slots := 0, locals := 0 } : Room).slots) := by
  refine MetFree.of_bodySF (Jvm.Free.JP.mathPlain rfl (by decide +kernel)) hisR ?_
  intro p e s m args below meth c s₁ Bd hml0 hP hK
  obtain ⟨rfl, hZ, hh⟩ := hP
  have hx := Bd.exec
  have hby := Bd.bytes
  have hml : c.maxLocals = 2 := hml0
  have hown : s.vm.findClass "java/lang/Math" = some m.cls := findClass_of_methodNamed Bd.named
  have hnm := (name_of_methodNamed Bd.named Bd.method).1
  have hlk : meth.locks = false := Bd.notSynchronized
  have X0 : Stand p l e ({ frames := 0, cells := 0, slots := 0, locals := 0 } : Room) s m #[(.int pa), (.int pb)] below meth c s₁ [] 0 0 := Stand.of_body Bd
  have e0 : s₁.heap = h0 := by rw [← hh, Bd.state]; rfl
  have N0 := Fr.nil n0
  show own_G p.tables e below (fun o U' => ∃ v L, o = .returned v ∧ (own_mmax_Q Z pa pb h0 n0) v U'.heap L ∧ FrameEnd s o U' L ({ frames := 0, cells := 0, slots := 0, locals := 0 } : Room).cells ({ frames := 0, cells := 0, slots := 0, locals := 0 } : Room).slots) (s₁.setTop (entryFrame m #[(.int pa), (.int pb)] 2))
  refine own_go (B := s₁.setTop (mkF m 0 #[iv pa, iv pb] [])) (fun t k => castTop (own_mmax_ef m pa pb) k) ?_
  refine own_go (B := (s₁.setTop (mkF m 1 #[iv pa, iv pb] [(.int pa)]))) (fun t k => XS.iloadN X0.here hx rfl (hb hby own_mmax_d0) rfl k) ?_
  refine own_go (B := (s₁.setTop (mkF m 2 #[iv pa, iv pb] [(.int pb), (.int pa)]))) (fun t k => XS.iloadN X0.here hx rfl (hb hby own_mmax_d1) rfl k) ?_
  refine own_icmp X0 hx (hb hby own_mmax_d2) (pc' := 9) (pn := 5) (by decide) (by decide) rfl (fun (hc2 : pa < pb) => ?_) (fun (hc2 : ¬ pa < pb) => ?_)
  · refine own_go (B := (s₁.setTop (mkF m 10 #[iv pa, iv pb] [(.int pb)]))) (fun t k => XS.iloadN X0.here hx rfl (hb hby own_mmax_d9) rfl k) ?_
    exact own_retI X0 hx hlk Bd.returns (hb hby own_mmax_d10) (own_b rfl) (own_b rfl) (Q := (own_mmax_Q Z pa pb h0 n0)) ⟨by rw [own_max, if_pos hc2], N0, e0⟩
  · refine own_go (B := (s₁.setTop (mkF m 6 #[iv pa, iv pb] [(.int pa)]))) (fun t k => XS.iloadN X0.here hx rfl (hb hby own_mmax_d5) rfl k) ?_
    refine own_go (B := (s₁.setTop (mkF m 10 #[iv pa, iv pb] [(.int pa)]))) (fun t k => XS.goto X0.here hx rfl (pc0 := 6) (pc' := 10) rfl (hb hby own_mmax_d6) (by decide) (by decide) k) ?_
    exact own_retI X0 hx hlk Bd.returns (hb hby own_mmax_d10) (own_b rfl) (own_b rfl) (Q := (own_mmax_Q Z pa pb h0 n0)) ⟨by rw [own_max, if_neg hc2], N0, e0⟩

theorem own_mmaxl_d0 : decode jdk_29_method_66_code 0 = .ok (.lload_n 0, 1) := by decide +kernel
theorem own_mmaxl_d1 : decode jdk_29_method_66_code 1 = .ok (.lload_n 2, 1) := by decide +kernel
theorem own_mmaxl_d2 : decode jdk_29_method_66_code 2 = .ok (.lcmp, 1) := by decide +kernel
theorem own_mmaxl_d3 : decode jdk_29_method_66_code 3 = .ok (.ifCond .lt 7, 3) := by decide +kernel
theorem own_mmaxl_d6 : decode jdk_29_method_66_code 6 = .ok (.lload_n 0, 1) := by decide +kernel
theorem own_mmaxl_d7 : decode jdk_29_method_66_code 7 = .ok (.goto 4, 3) := by decide +kernel
theorem own_mmaxl_d10 : decode jdk_29_method_66_code 10 = .ok (.lload_n 2, 1) := by decide +kernel
theorem own_mmaxl_d11 : decode jdk_29_method_66_code 11 = .ok (.lreturn, 1) := by decide +kernel
theorem own_mmaxl_ef (m : MethodId) (pa : Int64) (pb : Int64) : entryFrame m #[(.long pa), (.long pb)] 4 = mkF m 0 #[.val (.long pa), .second, .val (.long pb), .second] [] := by first | (simp [entryFrame, mkF, argsToLocals, Value.category]; done) | rfl
def own_mmaxl_Q (Z : State) (pa : Int64) (pb : Int64) (h0 : Heap) (n0 : Nat) (v : Option Value) (h : Heap) (L : List Loc) : Prop := v = some (.long (own_maxL pa pb)) ∧ Fr n0 L ∧ h = h0
set_option maxRecDepth 65536 in
set_option maxHeartbeats 40000000 in
theorem own_mmaxl (l : Launch) (Z : State) (a0 : Array Value) (hw : ∀ d ∈ tables_1, d.before a0 Z = true) (ws : List Jvm.Cond) (pa : Int64) (pb : Int64) (h0 : Heap) (n0 : Nat) :
    MetFree l own_y17 (head1 (Jvm.Cond.code own_y17 jdk_29_method_66_code 4 (some .long) :: ws) ({ frames := 0, cells := 0, slots := 0, locals := 0 } : Room)) (fun a U => a = #[(.long pa), (.long pb)] ∧ Z.Warmed39 U.vm ∧ U.heap = h0) (fun _ _ _ _ _ => True) (fun _ U o U' => ∃ v L, o = .returned v ∧ (own_mmaxl_Q Z pa pb h0 n0) v U'.heap L ∧ FrameEnd U o U' L ({ frames := 0, cells := 0, slots := 0, locals := 0 } : Room).cells ({ frames := 0, cells := 0, slots := 0, locals := 0 } : Room).slots) := by
  refine MetFree.of_bodySF (Jvm.Free.JP.mathPlain rfl (by decide +kernel)) hisR ?_
  intro p e s m args below meth c s₁ Bd hml0 hP hK
  obtain ⟨rfl, hZ, hh⟩ := hP
  have hx := Bd.exec
  have hby := Bd.bytes
  have hml : c.maxLocals = 4 := hml0
  have hown : s.vm.findClass "java/lang/Math" = some m.cls := findClass_of_methodNamed Bd.named
  have hnm := (name_of_methodNamed Bd.named Bd.method).1
  have hlk : meth.locks = false := Bd.notSynchronized
  have X0 : Stand p l e ({ frames := 0, cells := 0, slots := 0, locals := 0 } : Room) s m #[(.long pa), (.long pb)] below meth c s₁ [] 0 0 := Stand.of_body Bd
  have e0 : s₁.heap = h0 := by rw [← hh, Bd.state]; rfl
  have N0 := Fr.nil n0
  show own_G p.tables e below (fun o U' => ∃ v L, o = .returned v ∧ (own_mmaxl_Q Z pa pb h0 n0) v U'.heap L ∧ FrameEnd s o U' L ({ frames := 0, cells := 0, slots := 0, locals := 0 } : Room).cells ({ frames := 0, cells := 0, slots := 0, locals := 0 } : Room).slots) (s₁.setTop (entryFrame m #[(.long pa), (.long pb)] 4))
  refine own_go (B := s₁.setTop (mkF m 0 #[.val (.long pa), .second, .val (.long pb), .second] [])) (fun t k => castTop (own_mmaxl_ef m pa pb) k) ?_
  refine own_go (B := (s₁.setTop (mkF m 1 #[.val (.long pa), .second, .val (.long pb), .second] [(.long pa)]))) (fun t k => XS.lloadN X0.here hx rfl (hb hby own_mmaxl_d0) rfl k) ?_
  refine own_go (B := (s₁.setTop (mkF m 2 #[.val (.long pa), .second, .val (.long pb), .second] [(.long pb), (.long pa)]))) (fun t k => XS.lloadN X0.here hx rfl (hb hby own_mmaxl_d1) rfl k) ?_
  refine own_go (B := (s₁.setTop (mkF m 3 #[.val (.long pa), .second, .val (.long pb), .second] [(.int (lcmpW pa pb))]))) (fun t k => XS.lcmp (x := pa) (y := pb) X0.here hx rfl (hb hby own_mmaxl_d2) rfl k) ?_
  refine own_lif X0 hx (hb hby own_mmaxl_d3) (pc' := 10) (pn := 6) (by decide) (by decide) rfl (fun (hc3 : pa < pb) => ?_) (fun (hc3 : ¬ pa < pb) => ?_)
  · refine own_go (B := (s₁.setTop (mkF m 11 #[.val (.long pa), .second, .val (.long pb), .second] [(.long pb)]))) (fun t k => XS.lloadN X0.here hx rfl (hb hby own_mmaxl_d10) rfl k) ?_
    exact own_retL X0 hx hlk Bd.returns (hb hby own_mmaxl_d11) (own_b rfl) (own_b rfl) (Q := (own_mmaxl_Q Z pa pb h0 n0)) ⟨by rw [own_maxL, if_pos hc3], N0, e0⟩
  · refine own_go (B := (s₁.setTop (mkF m 7 #[.val (.long pa), .second, .val (.long pb), .second] [(.long pa)]))) (fun t k => XS.lloadN X0.here hx rfl (hb hby own_mmaxl_d6) rfl k) ?_
    refine own_go (B := (s₁.setTop (mkF m 11 #[.val (.long pa), .second, .val (.long pb), .second] [(.long pa)]))) (fun t k => XS.goto X0.here hx rfl (pc0 := 7) (pc' := 11) rfl (hb hby own_mmaxl_d7) (by decide) (by decide) k) ?_
    exact own_retL X0 hx hlk Bd.returns (hb hby own_mmaxl_d11) (own_b rfl) (own_b rfl) (Q := (own_mmaxl_Q Z pa pb h0 n0)) ⟨by rw [own_maxL, if_neg hc3], N0, e0⟩

theorem own_mminl_d0 : decode jdk_29_method_70_code 0 = .ok (.lload_n 0, 1) := by decide +kernel
theorem own_mminl_d1 : decode jdk_29_method_70_code 1 = .ok (.lload_n 2, 1) := by decide +kernel
theorem own_mminl_d2 : decode jdk_29_method_70_code 2 = .ok (.lcmp, 1) := by decide +kernel
theorem own_mminl_d3 : decode jdk_29_method_70_code 3 = .ok (.ifCond .gt 7, 3) := by decide +kernel
theorem own_mminl_d6 : decode jdk_29_method_70_code 6 = .ok (.lload_n 0, 1) := by decide +kernel
theorem own_mminl_d7 : decode jdk_29_method_70_code 7 = .ok (.goto 4, 3) := by decide +kernel
theorem own_mminl_d10 : decode jdk_29_method_70_code 10 = .ok (.lload_n 2, 1) := by decide +kernel
theorem own_mminl_d11 : decode jdk_29_method_70_code 11 = .ok (.lreturn, 1) := by decide +kernel
theorem own_mminl_ef (m : MethodId) (pa : Int64) (pb : Int64) : entryFrame m #[(.long pa), (.long pb)] 4 = mkF m 0 #[.val (.long pa), .second, .val (.long pb), .second] [] := by first | (simp [entryFrame, mkF, argsToLocals, Value.category]; done) | rfl
def own_mminl_Q (Z : State) (pa : Int64) (pb : Int64) (h0 : Heap) (n0 : Nat) (v : Option Value) (h : Heap) (L : List Loc) : Prop := ∃ r, v = some (.long r) ∧ Fr n0 L ∧ h = h0
set_option maxRecDepth 65536 in
set_option maxHeartbeats 40000000 in
theorem own_mminl (l : Launch) (Z : State) (a0 : Array Value) (hw : ∀ d ∈ tables_1, d.before a0 Z = true) (ws : List Jvm.Cond) (pa : Int64) (pb : Int64) (h0 : Heap) (n0 : Nat) :
    MetFree l own_y22 (head1 (Jvm.Cond.code own_y22 jdk_29_method_70_code 4 (some .long) :: ws) ({ frames := 0, cells := 0, slots := 0, locals := 0 } : Room)) (fun a U => a = #[(.long pa), (.long pb)] ∧ Z.Warmed39 U.vm ∧ U.heap = h0) (fun _ _ _ _ _ => True) (fun _ U o U' => ∃ v L, o = .returned v ∧ (own_mminl_Q Z pa pb h0 n0) v U'.heap L ∧ FrameEnd U o U' L ({ frames := 0, cells := 0, slots := 0, locals := 0 } : Room).cells ({ frames := 0, cells := 0, slots := 0, locals := 0 } : Room).slots) := by
  refine MetFree.of_bodySF (Jvm.Free.JP.mathPlain rfl (by decide +kernel)) hisR ?_
  intro p e s m args below meth c s₁ Bd hml0 hP hK
  obtain ⟨rfl, hZ, hh⟩ := hP
  have hx := Bd.exec
  have hby := Bd.bytes
  have hml : c.maxLocals = 4 := hml0
  have hown : s.vm.findClass "java/lang/Math" = some m.cls := findClass_of_methodNamed Bd.named
  have hnm := (name_of_methodNamed Bd.named Bd.method).1
  have hlk : meth.locks = false := Bd.notSynchronized
  have X0 : Stand p l e ({ frames := 0, cells := 0, slots := 0, locals := 0 } : Room) s m #[(.long pa), (.long pb)] below meth c s₁ [] 0 0 := Stand.of_body Bd
  have e0 : s₁.heap = h0 := by rw [← hh, Bd.state]; rfl
  have N0 := Fr.nil n0
  show own_G p.tables e below (fun o U' => ∃ v L, o = .returned v ∧ (own_mminl_Q Z pa pb h0 n0) v U'.heap L ∧ FrameEnd s o U' L ({ frames := 0, cells := 0, slots := 0, locals := 0 } : Room).cells ({ frames := 0, cells := 0, slots := 0, locals := 0 } : Room).slots) (s₁.setTop (entryFrame m #[(.long pa), (.long pb)] 4))
  refine own_go (B := s₁.setTop (mkF m 0 #[.val (.long pa), .second, .val (.long pb), .second] [])) (fun t k => castTop (own_mminl_ef m pa pb) k) ?_
  refine own_go (B := (s₁.setTop (mkF m 1 #[.val (.long pa), .second, .val (.long pb), .second] [(.long pa)]))) (fun t k => XS.lloadN X0.here hx rfl (hb hby own_mminl_d0) rfl k) ?_
  refine own_go (B := (s₁.setTop (mkF m 2 #[.val (.long pa), .second, .val (.long pb), .second] [(.long pb), (.long pa)]))) (fun t k => XS.lloadN X0.here hx rfl (hb hby own_mminl_d1) rfl k) ?_
  refine own_go (B := (s₁.setTop (mkF m 3 #[.val (.long pa), .second, .val (.long pb), .second] [(.int (lcmpW pa pb))]))) (fun t k => XS.lcmp (x := pa) (y := pb) X0.here hx rfl (hb hby own_mminl_d2) rfl k) ?_
  refine own_lif X0 hx (hb hby own_mminl_d3) (pc' := 10) (pn := 6) (by decide) (by decide) rfl (fun (hc3 : pb < pa) => ?_) (fun (hc3 : ¬ pb < pa) => ?_)
  · refine own_go (B := (s₁.setTop (mkF m 11 #[.val (.long pa), .second, .val (.long pb), .second] [(.long pb)]))) (fun t k => XS.lloadN X0.here hx rfl (hb hby own_mminl_d10) rfl k) ?_
    exact own_retL X0 hx hlk Bd.returns (hb hby own_mminl_d11) (own_b rfl) (own_b rfl) (Q := (own_mminl_Q Z pa pb h0 n0)) ⟨_, rfl, N0, e0⟩
  · refine own_go (B := (s₁.setTop (mkF m 7 #[.val (.long pa), .second, .val (.long pb), .second] [(.long pa)]))) (fun t k => XS.lloadN X0.here hx rfl (hb hby own_mminl_d6) rfl k) ?_
    refine own_go (B := (s₁.setTop (mkF m 11 #[.val (.long pa), .second, .val (.long pb), .second] [(.long pa)]))) (fun t k => XS.goto X0.here hx rfl (pc0 := 7) (pc' := 11) rfl (hb hby own_mminl_d7) (by decide) (by decide) k) ?_
    exact own_retL X0 hx hlk Bd.returns (hb hby own_mminl_d11) (own_b rfl) (own_b rfl) (Q := (own_mminl_Q Z pa pb h0 n0)) ⟨_, rfl, N0, e0⟩

theorem own_mo_d0 : decode jdk_72_method_26_code 0 = .ok (.getstatic 81, 3) := by decide +kernel
theorem own_mo_d3 : decode jdk_72_method_26_code 3 = .ok (.areturn, 1) := by decide +kernel
theorem own_mo_pn : plainName "java/util/Map" = true := by first | (simp [plainName, overriddenIn]; done) | decide +kernel
theorem own_mo_ef (m : MethodId) : entryFrame m #[] 0 = mkF m 0 #[] [] := by first | (simp [entryFrame, mkF, argsToLocals, Value.category]; done) | rfl
def own_mo_Q (Z : State) (am : Addr) (h0 : Heap) (n0 : Nat) (v : Option Value) (h : Heap) (L : List Loc) : Prop := v = some (.ref am) ∧ Fr n0 L ∧ h = h0
set_option maxRecDepth 65536 in
set_option maxHeartbeats 40000000 in
theorem own_mo (l : Launch) (Z : State) (a0 : Array Value) (hw : ∀ d ∈ tables_1, d.before a0 Z = true) (ws : List Jvm.Cond) (am : Addr) (h0 : Heap) (n0 : Nat) (Z0 : n0 ≤ h0.size) (H9000 : Sta Z h0 "java/util/ImmutableCollections" "EMPTY_MAP" "Ljava/util/ImmutableCollections$MapN;" (.ref am)) :
    MetFree l own_y2 (head1 (Jvm.Cond.code own_y2 jdk_72_method_26_code 0 (some (.object "java/util/Map")) :: ws) ({ frames := 0, cells := 0, slots := 0, locals := 0 } : Room)) (fun a U => a = #[] ∧ Z.Warmed39 U.vm ∧ U.heap = h0) (fun _ _ _ _ _ => True) (fun _ U o U' => ∃ v L, o = .returned v ∧ (own_mo_Q Z am h0 n0) v U'.heap L ∧ FrameEnd U o U' L ({ frames := 0, cells := 0, slots := 0, locals := 0 } : Room).cells ({ frames := 0, cells := 0, slots := 0, locals := 0 } : Room).slots) := by
  refine MetFree.of_bodySF (plainFor_of_name own_mo_pn) hisR ?_
  intro p e s m args below meth c s₁ Bd hml0 hP hK
  obtain ⟨rfl, hZ, hh⟩ := hP
  have hx := Bd.exec
  have hby := Bd.bytes
  have hml : c.maxLocals = 0 := hml0
  have hown : s.vm.findClass "java/util/Map" = some m.cls := findClass_of_methodNamed Bd.named
  have hnm := (name_of_methodNamed Bd.named Bd.method).1
  have hlk : meth.locks = false := Bd.notSynchronized
  have X0 : Stand p l e ({ frames := 0, cells := 0, slots := 0, locals := 0 } : Room) s m #[] below meth c s₁ [] 0 0 := Stand.of_body Bd
  have e0 : s₁.heap = h0 := by rw [← hh, Bd.state]; rfl
  have N0 := Fr.nil n0
  have w_32 := hw _ (List.mem_of_getElem? (l := tables_1) (i := 32) rfl)
  show own_G p.tables e below (fun o U' => ∃ v L, o = .returned v ∧ (own_mo_Q Z am h0 n0) v U'.heap L ∧ FrameEnd s o U' L ({ frames := 0, cells := 0, slots := 0, locals := 0 } : Room).cells ({ frames := 0, cells := 0, slots := 0, locals := 0 } : Room).slots) (s₁.setTop (entryFrame m #[] 0))
  refine own_go (B := s₁.setTop (mkF m 0 #[] [])) (fun t k => castTop (own_mo_ef m) k) ?_
  obtain ⟨T1, X1, e1, st1⟩ := getS X0 hx hZ hown (host := "") w_32 Via.refl e0 H9000 (g := (mkF m 0 #[] [])) rfl (hb hby own_mo_d0)
  refine own_go (B := (T1.setTop (mkF m 3 #[] [(.ref am)]))) st1 ?_
  exact own_retA X1 hx hlk Bd.returns rfl rfl (hb hby own_mo_d3) (own_b rfl) (own_b rfl) (Q := (own_mo_Q Z am h0 n0)) ⟨rfl, N0, e1⟩

theorem own_rn_d0 : decode jdk_31_method_11_code 0 = .ok (.aload_n 0, 1) := by decide +kernel
theorem own_rn_d1 : decode jdk_31_method_11_code 1 = .ok (.ifnonnull 12, 3) := by decide +kernel
theorem own_rn_d13 : decode jdk_31_method_11_code 13 = .ok (.aload_n 0, 1) := by decide +kernel
theorem own_rn_d14 : decode jdk_31_method_11_code 14 = .ok (.areturn, 1) := by decide +kernel
theorem own_rn_pn : plainName "java/util/Objects" = true := by first | (simp [plainName, overriddenIn]; done) | decide +kernel
theorem own_rn_ef (m : MethodId) (po : Addr) (pm : Addr) : entryFrame m #[(.ref po), (.ref pm)] 2 = mkF m 0 #[rv po, rv pm] [] := by first | (simp [entryFrame, mkF, argsToLocals, Value.category]; done) | rfl
def own_rn_Q (Z : State) (po : Addr) (pm : Addr) (h0 : Heap) (n0 : Nat) (v : Option Value) (h : Heap) (L : List Loc) : Prop := v = some (.ref po) ∧ Fr n0 L ∧ h = h0
set_option maxRecDepth 65536 in
set_option maxHeartbeats 40000000 in
theorem own_rn (l : Launch) (Z : State) (a0 : Array Value) (hw : ∀ d ∈ tables_1, d.before a0 Z = true) (ws : List Jvm.Cond) (po : Addr) (pm : Addr) (h0 : Heap) (n0 : Nat) (Z0 : n0 ≤ h0.size) :
    MetFree l own_y1 (head1 (Jvm.Cond.code own_y1 jdk_31_method_11_code 2 (some (.object "java/lang/Object")) :: ws) ({ frames := 0, cells := 0, slots := 0, locals := 0 } : Room)) (fun a U => a = #[(.ref po), (.ref pm)] ∧ Z.Warmed39 U.vm ∧ U.heap = h0) (fun _ _ _ _ _ => True) (fun _ U o U' => ∃ v L, o = .returned v ∧ (own_rn_Q Z po pm h0 n0) v U'.heap L ∧ FrameEnd U o U' L ({ frames := 0, cells := 0, slots := 0, locals := 0 } : Room).cells ({ frames := 0, cells := 0, slots := 0, locals := 0 } : Room).slots) := by
  refine MetFree.of_bodySF (plainFor_of_name own_rn_pn) hisR ?_
  intro p e s m args below meth c s₁ Bd hml0 hP hK
  obtain ⟨rfl, hZ, hh⟩ := hP
  have hx := Bd.exec
  have hby := Bd.bytes
  have hml : c.maxLocals = 2 := hml0
  have hown : s.vm.findClass "java/util/Objects" = some m.cls := findClass_of_methodNamed Bd.named
  have hnm := (name_of_methodNamed Bd.named Bd.method).1
  have hlk : meth.locks = false := Bd.notSynchronized
  have X0 : Stand p l e ({ frames := 0, cells := 0, slots := 0, locals := 0 } : Room) s m #[(.ref po), (.ref pm)] below meth c s₁ [] 0 0 := Stand.of_body Bd
  have e0 : s₁.heap = h0 := by rw [← hh, Bd.state]; rfl
  have N0 := Fr.nil n0
  show own_G p.tables e below (fun o U' => ∃ v L, o = .returned v ∧ (own_rn_Q Z po pm h0 n0) v U'.heap L ∧ FrameEnd s o U' L ({ frames := 0, cells := 0, slots := 0, locals := 0 } : Room).cells ({ frames := 0, cells := 0, slots := 0, locals := 0 } : Room).slots) (s₁.setTop (entryFrame m #[(.ref po), (.ref pm)] 2))
  refine own_go (B := s₁.setTop (mkF m 0 #[rv po, rv pm] [])) (fun t k => castTop (own_rn_ef m po pm) k) ?_
  refine own_go (B := (s₁.setTop (mkF m 1 #[rv po, rv pm] [(.ref po)]))) (fun t k => XS.aloadN X0.here hx rfl (hb hby own_rn_d0) rfl rfl k) ?_
  refine own_go (B := (s₁.setTop (mkF m 13 #[rv po, rv pm] []))) (fun t k => XS.ifnonnullYes X0.here hx rfl (pc0 := 1) (pc' := 13) rfl (hb hby own_rn_d1) rfl (by decide) (by decide) k) ?_
  refine own_go (B := (s₁.setTop (mkF m 14 #[rv po, rv pm] [(.ref po)]))) (fun t k => XS.aloadN X0.here hx rfl (hb hby own_rn_d13) rfl rfl k) ?_
  exact own_retA X0 hx hlk Bd.returns rfl rfl (hb hby own_rn_d14) (own_b rfl) (own_b rfl) (Q := (own_rn_Q Z po pm h0 n0)) ⟨rfl, N0, e0⟩

theorem own_r9_d0 : decode prog_38_method_2_code 0 = .ok (.aload_n 0, 1) := by decide +kernel
theorem own_r9_d1 : decode prog_38_method_2_code 1 = .ok (.invokespecial 27, 3) := by decide +kernel
theorem own_r9_d4 : decode prog_38_method_2_code 4 = .ok (.aload_n 1, 1) := by decide +kernel
theorem own_r9_d5 : decode prog_38_method_2_code 5 = .ok (.ldc 32, 2) := by decide +kernel
theorem own_r9_d7 : decode prog_38_method_2_code 7 = .ok (.invokestatic 34, 3) := by decide +kernel
theorem own_r9_d10 : decode prog_38_method_2_code 10 = .ok (.pop, 1) := by decide +kernel
theorem own_r9_d11 : decode prog_38_method_2_code 11 = .ok (.iload_n 2, 1) := by decide +kernel
theorem own_r9_d12 : decode prog_38_method_2_code 12 = .ok (.ifCond .ge 20, 3) := by decide +kernel
theorem own_r9_d32 : decode prog_38_method_2_code 32 = .ok (.aload 4, 2) := by decide +kernel
theorem own_r9_d34 : decode prog_38_method_2_code 34 = .ok (.getstatic 51, 3) := by decide +kernel
theorem own_r9_d37 : decode prog_38_method_2_code 37 = .ok (.if_acmp .ne 20, 3) := by decide +kernel
theorem own_r9_d57 : decode prog_38_method_2_code 57 = .ok (.aload 4, 2) := by decide +kernel
theorem own_r9_d59 : decode prog_38_method_2_code 59 = .ok (.getstatic 51, 3) := by decide +kernel
theorem own_r9_d62 : decode prog_38_method_2_code 62 = .ok (.if_acmp .ne 57, 3) := by decide +kernel
theorem own_r9_d119 : decode prog_38_method_2_code 119 = .ok (.aload 4, 2) := by decide +kernel
theorem own_r9_d121 : decode prog_38_method_2_code 121 = .ok (.getstatic 5, 3) := by decide +kernel
theorem own_r9_d124 : decode prog_38_method_2_code 124 = .ok (.if_acmp .ne 27, 3) := by decide +kernel
theorem own_r9_d127 : decode prog_38_method_2_code 127 = .ok (.iload 5, 2) := by decide +kernel
theorem own_r9_d129 : decode prog_38_method_2_code 129 = .ok (.iconst 1, 1) := by decide +kernel
theorem own_r9_d130 : decode prog_38_method_2_code 130 = .ok (.if_icmp .ge 21, 3) := by decide +kernel
theorem own_r9_d151 : decode prog_38_method_2_code 151 = .ok (.iload 6, 2) := by decide +kernel
theorem own_r9_d153 : decode prog_38_method_2_code 153 = .ok (.ifCond .ge 21, 3) := by decide +kernel
theorem own_r9_d174 : decode prog_38_method_2_code 174 = .ok (.lload 8, 2) := by decide +kernel
theorem own_r9_d176 : decode prog_38_method_2_code 176 = .ok (.lconst 0, 1) := by decide +kernel
theorem own_r9_d177 : decode prog_38_method_2_code 177 = .ok (.lcmp, 1) := by decide +kernel
theorem own_r9_d178 : decode prog_38_method_2_code 178 = .ok (.ifCond .ge 21, 3) := by decide +kernel
theorem own_r9_d199 : decode prog_38_method_2_code 199 = .ok (.aload_n 0, 1) := by decide +kernel
theorem own_r9_d200 : decode prog_38_method_2_code 200 = .ok (.aload_n 1, 1) := by decide +kernel
theorem own_r9_d201 : decode prog_38_method_2_code 201 = .ok (.putfield 83, 3) := by decide +kernel
theorem own_r9_d204 : decode prog_38_method_2_code 204 = .ok (.aload_n 0, 1) := by decide +kernel
theorem own_r9_d205 : decode prog_38_method_2_code 205 = .ok (.iload_n 2, 1) := by decide +kernel
theorem own_r9_d206 : decode prog_38_method_2_code 206 = .ok (.putfield 86, 3) := by decide +kernel
theorem own_r9_d209 : decode prog_38_method_2_code 209 = .ok (.aload_n 0, 1) := by decide +kernel
theorem own_r9_d210 : decode prog_38_method_2_code 210 = .ok (.iload_n 3, 1) := by decide +kernel
theorem own_r9_d211 : decode prog_38_method_2_code 211 = .ok (.putfield 89, 3) := by decide +kernel
theorem own_r9_d214 : decode prog_38_method_2_code 214 = .ok (.aload_n 0, 1) := by decide +kernel
theorem own_r9_d215 : decode prog_38_method_2_code 215 = .ok (.aload 4, 2) := by decide +kernel
theorem own_r9_d217 : decode prog_38_method_2_code 217 = .ok (.putfield 92, 3) := by decide +kernel
theorem own_r9_d220 : decode prog_38_method_2_code 220 = .ok (.aload_n 0, 1) := by decide +kernel
theorem own_r9_d221 : decode prog_38_method_2_code 221 = .ok (.iload 5, 2) := by decide +kernel
theorem own_r9_d223 : decode prog_38_method_2_code 223 = .ok (.putfield 95, 3) := by decide +kernel
theorem own_r9_d226 : decode prog_38_method_2_code 226 = .ok (.aload_n 0, 1) := by decide +kernel
theorem own_r9_d227 : decode prog_38_method_2_code 227 = .ok (.iload 6, 2) := by decide +kernel
theorem own_r9_d229 : decode prog_38_method_2_code 229 = .ok (.putfield 97, 3) := by decide +kernel
theorem own_r9_d232 : decode prog_38_method_2_code 232 = .ok (.aload_n 0, 1) := by decide +kernel
theorem own_r9_d233 : decode prog_38_method_2_code 233 = .ok (.aload 7, 2) := by decide +kernel
theorem own_r9_d235 : decode prog_38_method_2_code 235 = .ok (.putfield 99, 3) := by decide +kernel
theorem own_r9_d238 : decode prog_38_method_2_code 238 = .ok (.aload_n 0, 1) := by decide +kernel
theorem own_r9_d239 : decode prog_38_method_2_code 239 = .ok (.lload 8, 2) := by decide +kernel
theorem own_r9_d241 : decode prog_38_method_2_code 241 = .ok (.putfield 101, 3) := by decide +kernel
theorem own_r9_d244 : decode prog_38_method_2_code 244 = .ok (.aload_n 0, 1) := by decide +kernel
theorem own_r9_d245 : decode prog_38_method_2_code 245 = .ok (.aload 10, 2) := by decide +kernel
theorem own_r9_d247 : decode prog_38_method_2_code 247 = .ok (.putfield 104, 3) := by decide +kernel
theorem own_r9_d250 : decode prog_38_method_2_code 250 = .ok (.return_, 1) := by decide +kernel
theorem own_r9_pn : plainName "com/example/sluicegate/sluicegate/rule/HotParameterRule" = true := by first | (simp [plainName, overriddenIn]; done) | decide +kernel
theorem own_r9_ef (m : MethodId) (th : Addr) (ar : Addr) (ix : Int32) (ct : Int32) (ac : Addr) (du : Int32) (bu : Int32) (ab : Addr) (mq : Int64) (am : Addr) : entryFrame m #[(.ref th), (.ref ar), (.int ix), (.int ct), (.ref ac), (.int du), (.int bu), (.ref ab), (.long mq), (.ref am)] 11 = mkF m 0 #[rv th, rv ar, iv ix, iv ct, rv ac, iv du, iv bu, rv ab, .val (.long mq), .second, rv am] [] := by first | (simp [entryFrame, mkF, argsToLocals, Value.category]; done) | rfl
def own_r9_Q (Z : State) (th : Addr) (ar : Addr) (ix : Int32) (ct : Int32) (ac : Addr) (du : Int32) (bu : Int32) (ab : Addr) (mq : Int64) (am : Addr) (ae : Addr) (h0 : Heap) (n0 : Nat) (v : Option Value) (h : Heap) (L : List Loc) : Prop := v = none ∧ Fr n0 L ∧ Keep h0 h [th] ∧ Exa Z h th "com/example/sluicegate/sluicegate/rule/HotParameterRule" ∧ Fld Z h th "com/example/sluicegate/sluicegate/rule/HotParameterRule" "resource" "Ljava/lang/String;" (.ref ar) ∧ Fld Z h th "com/example/sluicegate/sluicegate/rule/HotParameterRule" "argumentIndex" "I" (.int ix) ∧ Fld Z h th "com/example/sluicegate/sluicegate/rule/HotParameterRule" "count" "I" (.int ct) ∧ Fld Z h th "com/example/sluicegate/sluicegate/rule/HotParameterRule" "counts" "Lcom/example/sluicegate/sluicegate/rule/HotParameterRule$Counts;" (.ref ac) ∧ Fld Z h th "com/example/sluicegate/sluicegate/rule/HotParameterRule" "durationSeconds" "I" (.int du) ∧ Fld Z h th "com/example/sluicegate/sluicegate/rule/HotParameterRule" "burst" "I" (.int bu) ∧ Fld Z h th "com/example/sluicegate/sluicegate/rule/HotParameterRule" "behaviour" "Lcom/example/sluicegate/sluicegate/rule/HotParameterRule$Behaviour;" (.ref ab) ∧ Fld Z h th "com/example/sluicegate/sluicegate/rule/HotParameterRule" "maxQueueingMillis" "J" (.long mq) ∧ Fld Z h th "com/example/sluicegate/sluicegate/rule/HotParameterRule" "valueCounts" "Ljava/util/Map;" (.ref am)
set_option maxRecDepth 65536 in
set_option maxHeartbeats 40000000 in
theorem own_r9 (l : Launch) (Z : State) (a0 : Array Value) (hw : ∀ d ∈ tables_1, d.before a0 Z = true) (ws : List Jvm.Cond) (th : Addr) (ar : Addr) (ix : Int32) (ct : Int32) (ac : Addr) (du : Int32) (bu : Int32) (ab : Addr) (mq : Int64) (am : Addr) (ae : Addr) (h0 : Heap) (n0 : Nat) (Z0 : n0 ≤ h0.size) (H9000 : Exa Z h0 th "com/example/sluicegate/sluicegate/rule/HotParameterRule") (H9001 : n0 ≤ th) (H9002 : Fld Z h0 th "com/example/sluicegate/sluicegate/rule/HotParameterRule" "resource" "Ljava/lang/String;" .null) (H9003 : Fld Z h0 th "com/example/sluicegate/sluicegate/rule/HotParameterRule" "argumentIndex" "I" (.int (0 : Int32))) (H9004 : Fld Z h0 th "com/example/sluicegate/sluicegate/rule/HotParameterRule" "count" "I" (.int (0 : Int32))) (H9005 : Fld Z h0 th "com/example/sluicegate/sluicegate/rule/HotParameterRule" "counts" "Lcom/example/sluicegate/sluicegate/rule/HotParameterRule$Counts;" .null) (H9006 : Fld Z h0 th "com/example/sluicegate/sluicegate/rule/HotParameterRule" "durationSeconds" "I" (.int (0 : Int32))) (H9007 : Fld Z h0 th "com/example/sluicegate/sluicegate/rule/HotParameterRule" "burst" "I" (.int (0 : Int32))) (H9008 : Fld Z h0 th "com/example/sluicegate/sluicegate/rule/HotParameterRule" "behaviour" "Lcom/example/sluicegate/sluicegate/rule/HotParameterRule$Behaviour;" .null) (H9009 : Fld Z h0 th "com/example/sluicegate/sluicegate/rule/HotParameterRule" "maxQueueingMillis" "J" (.long (0 : Int64))) (H9010 : Fld Z h0 th "com/example/sluicegate/sluicegate/rule/HotParameterRule" "valueCounts" "Ljava/util/Map;" .null) (H9011 : Sta Z h0 "com/example/sluicegate/sluicegate/rule/HotParameterRule$Counts" "PERMITS" "Lcom/example/sluicegate/sluicegate/rule/HotParameterRule$Counts;" (.ref ac)) (H9012 : Sta Z h0 "com/example/sluicegate/sluicegate/rule/HotParameterRule$Counts" "ENTRIES" "Lcom/example/sluicegate/sluicegate/rule/HotParameterRule$Counts;" (.ref ae)) (H9013 : ac ≠ ae) (hix : ¬ ix < (0 : Int32)) (hdu : ¬ du < (1 : Int32)) (hbu : ¬ bu < (0 : Int32)) (hmq : ¬ mq < (0 : Int64)) :
    MetFree l own_y3 (head1 (Jvm.Cond.code own_y3 prog_38_method_2_code 11 none :: ws) ({ frames := 1, cells := 2, slots := 36, locals := 13 } : Room)) (fun a U => a = #[(.ref th), (.ref ar), (.int ix), (.int ct), (.ref ac), (.int du), (.int bu), (.ref ab), (.long mq), (.ref am)] ∧ Z.Warmed39 U.vm ∧ U.heap = h0) (fun _ _ _ _ _ => True) (fun _ U o U' => ∃ v L, o = .returned v ∧ (own_r9_Q Z th ar ix ct ac du bu ab mq am ae h0 n0) v U'.heap L ∧ ReturnedEndW U o U' L ({ frames := 1, cells := 2, slots := 36, locals := 13 } : Room).cells ({ frames := 1, cells := 2, slots := 36, locals := 13 } : Room).slots) := by
  refine MetFree.of_bodySF (plainFor_of_name own_r9_pn) hisR ?_
  intro p e s m args below meth c s₁ Bd hml0 hP hK
  obtain ⟨rfl, hZ, hh⟩ := hP
  have hx := Bd.exec
  have hby := Bd.bytes
  have hml : c.maxLocals = 11 := hml0
  have hown : s.vm.findClass "com/example/sluicegate/sluicegate/rule/HotParameterRule" = some m.cls := findClass_of_methodNamed Bd.named
  have hnm := (name_of_methodNamed Bd.named Bd.method).1
  have hlk : meth.locks = false := Bd.notSynchronized
  have X0 : Stand p l e ({ frames := 1, cells := 2, slots := 36, locals := 13 } : Room) (s.setVm s.vm) m #[(.ref th), (.ref ar), (.int ix), (.int ct), (.ref ac), (.int du), (.int bu), (.ref ab), (.long mq), (.ref am)] below meth c s₁ [] 0 0 := Stand.of_body Bd
  have hS0 : s.Since s.vm 0 := own_since0 s 0
  have hk0 : 0 ≤ h0.size := Nat.zero_le _
  have hws := own_hws hw
  have e0 : s₁.heap = h0 := by rw [← hh, Bd.state]; rfl
  have N0 := Fr.nil n0
  have w_9 := hw _ (List.mem_of_getElem? (l := tables_1) (i := 9) rfl)
  have w_22 := hw _ (List.mem_of_getElem? (l := tables_1) (i := 22) rfl)
  have w_37 := hw _ (List.mem_of_getElem? (l := tables_1) (i := 37) rfl)
  have w_38 := hw _ (List.mem_of_getElem? (l := tables_1) (i := 38) rfl)
  have w_39 := hw _ (List.mem_of_getElem? (l := tables_1) (i := 39) rfl)
  have w_40 := hw _ (List.mem_of_getElem? (l := tables_1) (i := 40) rfl)
  have w_41 := hw _ (List.mem_of_getElem? (l := tables_1) (i := 41) rfl)
  have w_42 := hw _ (List.mem_of_getElem? (l := tables_1) (i := 42) rfl)
  have w_43 := hw _ (List.mem_of_getElem? (l := tables_1) (i := 43) rfl)
  have w_44 := hw _ (List.mem_of_getElem? (l := tables_1) (i := 44) rfl)
  have w_45 := hw _ (List.mem_of_getElem? (l := tables_1) (i := 45) rfl)
  have w_47 := hw _ (List.mem_of_getElem? (l := tables_1) (i := 47) rfl)
  have w_48 := hw _ (List.mem_of_getElem? (l := tables_1) (i := 48) rfl)
  have w_49 := hw _ (List.mem_of_getElem? (l := tables_1) (i := 49) rfl)
  have w_50 := hw _ (List.mem_of_getElem? (l := tables_1) (i := 50) rfl)
  have w_51 := hw _ (List.mem_of_getElem? (l := tables_1) (i := 51) rfl)
  have w_52 := hw _ (List.mem_of_getElem? (l := tables_1) (i := 52) rfl)
  have w_53 := hw _ (List.mem_of_getElem? (l := tables_1) (i := 53) rfl)
  have w_54 := hw _ (List.mem_of_getElem? (l := tables_1) (i := 54) rfl)
  have w_55 := hw _ (List.mem_of_getElem? (l := tables_1) (i := 55) rfl)
  have w_56 := hw _ (List.mem_of_getElem? (l := tables_1) (i := 56) rfl)
  have w_57 := hw _ (List.mem_of_getElem? (l := tables_1) (i := 57) rfl)
  have w_58 := hw _ (List.mem_of_getElem? (l := tables_1) (i := 58) rfl)
  have w_59 := hw _ (List.mem_of_getElem? (l := tables_1) (i := 59) rfl)
  have w_60 := hw _ (List.mem_of_getElem? (l := tables_1) (i := 60) rfl)
  have w_61 := hw _ (List.mem_of_getElem? (l := tables_1) (i := 61) rfl)
  have w_62 := hw _ (List.mem_of_getElem? (l := tables_1) (i := 62) rfl)
  have w_63 := hw _ (List.mem_of_getElem? (l := tables_1) (i := 63) rfl)
  have w_64 := hw _ (List.mem_of_getElem? (l := tables_1) (i := 64) rfl)
  show own_G p.tables e below (fun o U' => ∃ v L, o = .returned v ∧ (own_r9_Q Z th ar ix ct ac du bu ab mq am ae h0 n0) v U'.heap L ∧ ReturnedEndW s o U' L ({ frames := 1, cells := 2, slots := 36, locals := 13 } : Room).cells ({ frames := 1, cells := 2, slots := 36, locals := 13 } : Room).slots) (s₁.setTop (entryFrame m #[(.ref th), (.ref ar), (.int ix), (.int ct), (.ref ac), (.int du), (.int bu), (.ref ab), (.long mq), (.ref am)] 11))
  refine own_go (B := s₁.setTop (mkF m 0 #[rv th, rv ar, iv ix, iv ct, rv ac, iv du, iv bu, rv ab, .val (.long mq), .second, rv am] [])) (fun t k => castTop (own_r9_ef m th ar ix ct ac du bu ab mq am) k) ?_
  have K0 := Keep.refl h0 [th]
  refine own_go (B := (s₁.setTop (mkF m 1 #[rv th, rv ar, iv ix, iv ct, rv ac, iv du, iv bu, rv ab, .val (.long mq), .second, rv am] [(.ref th)]))) (fun t k => XS.aloadN X0.here hx rfl (hb hby own_r9_d0) rfl rfl k) ?_
  obtain ⟨T1, X1, e1, st1⟩ := initO X0 hx hZ hown w_37 w_38 w_39 e0 (g := (mkF m 1 #[rv th, rv ar, iv ix, iv ct, rv ac, iv du, iv bu, rv ab, .val (.long mq), .second, rv am] [(.ref th)])) rfl (by rw [hml]; rfl) rfl (hb hby own_r9_d1) (by decide) (W := 0) (by show 2 * 0 + _ ≤ _; exact own_b rfl) (by decide)
  refine own_go (B := (T1.setTop (mkF m 4 #[rv th, rv ar, iv ix, iv ct, rv ac, iv du, iv bu, rv ab, .val (.long mq), .second, rv am] []))) st1 ?_
  refine own_go (B := (T1.setTop (mkF m 5 #[rv th, rv ar, iv ix, iv ct, rv ac, iv du, iv bu, rv ab, .val (.long mq), .second, rv am] [(.ref ar)]))) (fun t k => XS.aloadN X1.here hx rfl (hb hby own_r9_d4) rfl rfl k) ?_
  obtain ⟨a2, T2, h2, k2, X2, e2, E2, hS2, hk2, hZ2, ho2, st2⟩ := ldcS (s := s) (vm0 := s.vm) X1 hx hZ hown w_40 hws e1 hS0 hk0 (g := (mkF m 5 #[rv th, rv ar, iv ix, iv ct, rv ac, iv du, iv bu, rv ab, .val (.long mq), .second, rv am] [(.ref ar)])) rfl (hb hby own_r9_d5) (n := 32) (by decide) (by decide) (own_b rfl) (own_b rfl)
  refine own_go (B := (T2.setTop (mkF m 7 #[rv th, rv ar, iv ix, iv ct, rv ac, iv du, iv bu, rv ab, .val (.long mq), .second, rv am] [(.ref a2), (.ref ar)]))) st2 ?_
  have Z3 : n0 ≤ h2.size := Nat.le_trans Z0 E2.1
  have K4 := Keep.ext K0 E2
  have F5 := Exa.ext E2 H9000
  have F6 := Fld.ext E2 H9002
  have F7 := Fld.ext E2 H9003
  have F8 := Fld.ext E2 H9004
  have F9 := Fld.ext E2 H9005
  have F10 := Fld.ext E2 H9006
  have F11 := Fld.ext E2 H9007
  have F12 := Fld.ext E2 H9008
  have F13 := Fld.ext E2 H9009
  have F14 := Fld.ext E2 H9010
  have F15 := Sta.ext E2 H9011
  have F16 := Sta.ext E2 H9012
  obtain ⟨_, _, ⟨T17, L17, k17, n17⟩, -, X17, ⟨Lc17, hQ17, l17, yy17, zz17⟩, st17⟩ := Jvm.LawKit.callS X2 hx (y := own_y1) ho2 (mvT hZ2 w_41) (mvT hZ2 w_42) (mvT hZ2 w_43) (mvT hZ2 w_44) (by decide) (backOf (W := 0) (own_rn l Z a0 hw [] ar a2 h2 n0 Z3) hZ2 w_44 w_43 (by decide) (by decide)) (g := (mkF m 7 #[rv th, rv ar, iv ix, iv ct, rv ac, iv du, iv bu, rv ab, .val (.long mq), .second, rv am] [(.ref a2), (.ref ar)])) rfl (by rw [hml]; rfl) (argsL := [(.ref ar), (.ref a2)]) (rest := []) (lenOf own_pd1 rfl) rfl (by show 2 * 0 + _ ≤ _; exact own_b rfl) (hb hby own_r9_d7) (fun _ _ => ⟨rfl, e2, (own_b rfl : 2 + 0 ≤ _), (own_b rfl : 36 + 0 ≤ _)⟩)
  dsimp only [Pt.U, Pt.locs, Pt.cells, Pt.slots] at X17 l17 yy17 zz17 st17 hQ17
  obtain ⟨rfl, Nq17, eq17⟩ := hQ17
  obtain ⟨L17, X17, N17⟩ := own_absC (K := 2) (K' := 36) X17 l17 yy17 zz17 N0 Nq17
  have e17 : T17.heap = h2 := eq17
  refine own_go (B := (T17.setTop (mkF m 10 #[rv th, rv ar, iv ix, iv ct, rv ac, iv du, iv bu, rv ab, .val (.long mq), .second, rv am] [(.ref ar)]))) st17 ?_
  refine own_go (B := (T17.setTop (mkF m 11 #[rv th, rv ar, iv ix, iv ct, rv ac, iv du, iv bu, rv ab, .val (.long mq), .second, rv am] []))) (fun t k => XS.pop X17.here hx rfl (hb hby own_r9_d10) rfl rfl k) ?_
  refine own_go (B := (T17.setTop (mkF m 12 #[rv th, rv ar, iv ix, iv ct, rv ac, iv du, iv bu, rv ab, .val (.long mq), .second, rv am] [(.int ix)]))) (fun t k => XS.iloadN X17.here hx rfl (hb hby own_r9_d11) rfl k) ?_
  have hc12 : ¬ ix < (0 : Int32) := hix
  refine own_ifY X17 hx (hb hby own_r9_d12) (pc' := 32) (by decide) (by decide) hc12 ?_
  refine own_go (B := (T17.setTop (mkF m 34 #[rv th, rv ar, iv ix, iv ct, rv ac, iv du, iv bu, rv ab, .val (.long mq), .second, rv am] [(.ref ac)]))) (fun t k => XS.aload X17.here hx rfl (hb hby own_r9_d32) rfl rfl k) ?_
  obtain ⟨T18, X18, e18, st18⟩ := getS X17 hx hZ2 ho2 (host := "") w_45 Via.refl e17 F16 (g := (mkF m 34 #[rv th, rv ar, iv ix, iv ct, rv ac, iv du, iv bu, rv ab, .val (.long mq), .second, rv am] [(.ref ac)])) rfl (hb hby own_r9_d34)
  refine own_go (B := (T18.setTop (mkF m 37 #[rv th, rv ar, iv ix, iv ct, rv ac, iv du, iv bu, rv ab, .val (.long mq), .second, rv am] [(.ref ae), (.ref ac)]))) st18 ?_
  have hc37 : ¬ ac = ae := H9013
  refine own_acmpAD X18 hx (hb hby own_r9_d37) (pc' := 57) (by decide) (by decide) hc37 ?_
  refine own_go (B := (T18.setTop (mkF m 59 #[rv th, rv ar, iv ix, iv ct, rv ac, iv du, iv bu, rv ab, .val (.long mq), .second, rv am] [(.ref ac)]))) (fun t k => XS.aload X18.here hx rfl (hb hby own_r9_d57) rfl rfl k) ?_
  obtain ⟨T19, X19, e19, st19⟩ := getS X18 hx hZ2 ho2 (host := "") w_45 Via.refl e18 F16 (g := (mkF m 59 #[rv th, rv ar, iv ix, iv ct, rv ac, iv du, iv bu, rv ab, .val (.long mq), .second, rv am] [(.ref ac)])) rfl (hb hby own_r9_d59)
  refine own_go (B := (T19.setTop (mkF m 62 #[rv th, rv ar, iv ix, iv ct, rv ac, iv du, iv bu, rv ab, .val (.long mq), .second, rv am] [(.ref ae), (.ref ac)]))) st19 ?_
  have hc62 : ¬ ac = ae := H9013
  refine own_acmpAD X19 hx (hb hby own_r9_d62) (pc' := 119) (by decide) (by decide) hc62 ?_
  refine own_go (B := (T19.setTop (mkF m 121 #[rv th, rv ar, iv ix, iv ct, rv ac, iv du, iv bu, rv ab, .val (.long mq), .second, rv am] [(.ref ac)]))) (fun t k => XS.aload X19.here hx rfl (hb hby own_r9_d119) rfl rfl k) ?_
  obtain ⟨T20, X20, e20, st20⟩ := getS X19 hx hZ2 ho2 (host := "") w_22 Via.refl e19 F15 (g := (mkF m 121 #[rv th, rv ar, iv ix, iv ct, rv ac, iv du, iv bu, rv ab, .val (.long mq), .second, rv am] [(.ref ac)])) rfl (hb hby own_r9_d121)
  refine own_go (B := (T20.setTop (mkF m 124 #[rv th, rv ar, iv ix, iv ct, rv ac, iv du, iv bu, rv ab, .val (.long mq), .second, rv am] [(.ref ac), (.ref ac)]))) st20 ?_
  have hc124 : ac = ac := rfl
  refine own_acmpAE X20 hx (hb hby own_r9_d124) (pc' := 127) (by decide) (by decide) hc124 ?_
  refine own_go (B := (T20.setTop (mkF m 129 #[rv th, rv ar, iv ix, iv ct, rv ac, iv du, iv bu, rv ab, .val (.long mq), .second, rv am] [(.int du)]))) (fun t k => XS.iload X20.here hx rfl (hb hby own_r9_d127) rfl k) ?_
  refine own_go (B := (T20.setTop (mkF m 130 #[rv th, rv ar, iv ix, iv ct, rv ac, iv du, iv bu, rv ab, .val (.long mq), .second, rv am] [(.int (1 : Int32)), (.int du)]))) (fun t k => own_iconst (v := (1 : Int32)) X20.here hx rfl (hb hby own_r9_d129) (by decide) k) ?_
  have hc130 : ¬ du < (1 : Int32) := hdu
  refine own_icmpY X20 hx (hb hby own_r9_d130) (pc' := 151) (by decide) (by decide) hc130 ?_
  refine own_go (B := (T20.setTop (mkF m 153 #[rv th, rv ar, iv ix, iv ct, rv ac, iv du, iv bu, rv ab, .val (.long mq), .second, rv am] [(.int bu)]))) (fun t k => XS.iload X20.here hx rfl (hb hby own_r9_d151) rfl k) ?_
  have hc153 : ¬ bu < (0 : Int32) := hbu
  refine own_ifY X20 hx (hb hby own_r9_d153) (pc' := 174) (by decide) (by decide) hc153 ?_
  refine own_go (B := (T20.setTop (mkF m 176 #[rv th, rv ar, iv ix, iv ct, rv ac, iv du, iv bu, rv ab, .val (.long mq), .second, rv am] [(.long mq)]))) (fun t k => XS.lload X20.here hx rfl (hb hby own_r9_d174) rfl k) ?_
  refine own_go (B := (T20.setTop (mkF m 177 #[rv th, rv ar, iv ix, iv ct, rv ac, iv du, iv bu, rv ab, .val (.long mq), .second, rv am] [(.long (0 : Int64)), (.long mq)]))) (fun t k => XS.lconst X20.here hx rfl (hb hby own_r9_d176) k) ?_
  refine own_go (B := (T20.setTop (mkF m 178 #[rv th, rv ar, iv ix, iv ct, rv ac, iv du, iv bu, rv ab, .val (.long mq), .second, rv am] [(.int (lcmpW mq (0 : Int64)))]))) (fun t k => XS.lcmp (x := mq) (y := (0 : Int64)) X20.here hx rfl (hb hby own_r9_d177) rfl k) ?_
  have hc178 : ¬ mq < (0 : Int64) := hmq
  refine own_lifY X20 hx (hb hby own_r9_d178) (pc' := 199) (by decide) (by decide) hc178 ?_
  refine own_go (B := (T20.setTop (mkF m 200 #[rv th, rv ar, iv ix, iv ct, rv ac, iv du, iv bu, rv ab, .val (.long mq), .second, rv am] [(.ref th)]))) (fun t k => XS.aloadN X20.here hx rfl (hb hby own_r9_d199) rfl rfl k) ?_
  refine own_go (B := (T20.setTop (mkF m 201 #[rv th, rv ar, iv ix, iv ct, rv ac, iv du, iv bu, rv ab, .val (.long mq), .second, rv am] [(.ref ar), (.ref th)]))) (fun t k => XS.aloadN X20.here hx rfl (hb hby own_r9_d200) rfl rfl k) ?_
  obtain ⟨T21, h21, X21, e21, W21, st21⟩ := putF X20 hx hZ2 ho2 (host := "") (Or.inl w_47) Via.refl e20 F6 F5 (Or.inr ⟨w_48, rfl, hnm⟩) w_9 (ty := (.object "java/lang/String")) (by decide) rfl rfl (g := (mkF m 201 #[rv th, rv ar, iv ix, iv ct, rv ac, iv du, iv bu, rv ab, .val (.long mq), .second, rv am] [(.ref ar), (.ref th)])) rfl rfl (hb hby own_r9_d201)
  refine own_go (B := (T21.setTop (mkF m 204 #[rv th, rv ar, iv ix, iv ct, rv ac, iv du, iv bu, rv ab, .val (.long mq), .second, rv am] []))) st21 ?_
  obtain ⟨L21, X21, N21⟩ := own_abs X21 (Fr.snoc X21 N17 H9001)
  have F22 : n0 ≤ h21.size := by rw [W21.size]; exact Z3
  have F23 := Keep.wr K4 W21 (Or.inl (List.mem_of_getElem? (i := 0) rfl))
  have F24 := Exa.wr W21 F5
  have F25 := Fld.same W21 F6
  have F26 := Fld.other W21 F7 (Or.inr (slot_ne (t := .int) (t' := (.object "java/lang/String")) (Or.inr w_50) (Or.inr w_48) (by decide) (by decide) (by decide)))
  have F27 := Fld.other W21 F8 (Or.inr (slot_ne (t := .int) (t' := (.object "java/lang/String")) (Or.inr w_52) (Or.inr w_48) (by decide) (by decide) (by decide)))
  have F28 := Fld.other W21 F9 (Or.inr (slot_ne (t := (.object "com/example/sluicegate/sluicegate/rule/HotParameterRule$Counts")) (t' := (.object "java/lang/String")) (Or.inr w_54) (Or.inr w_48) (by decide) (by decide) (by decide)))
  have F29 := Fld.other W21 F10 (Or.inr (slot_ne (t := .int) (t' := (.object "java/lang/String")) (Or.inr w_56) (Or.inr w_48) (by decide) (by decide) (by decide)))
  have F30 := Fld.other W21 F11 (Or.inr (slot_ne (t := .int) (t' := (.object "java/lang/String")) (Or.inr w_58) (Or.inr w_48) (by decide) (by decide) (by decide)))
  have F31 := Fld.other W21 F12 (Or.inr (slot_ne (t := (.object "com/example/sluicegate/sluicegate/rule/HotParameterRule$Behaviour")) (t' := (.object "java/lang/String")) (Or.inr w_60) (Or.inr w_48) (by decide) (by decide) (by decide)))
  have F32 := Fld.other W21 F13 (Or.inr (slot_ne (t := .long) (t' := (.object "java/lang/String")) (Or.inr w_62) (Or.inr w_48) (by decide) (by decide) (by decide)))
  have F33 := Fld.other W21 F14 (Or.inr (slot_ne (t := (.object "java/util/Map")) (t' := (.object "java/lang/String")) (Or.inr w_64) (Or.inr w_48) (by decide) (by decide) (by decide)))
  have F34 := Sta.wr W21 F15
  have F35 := Sta.wr W21 F16
  have F36 : k2 ≤ h21.size := by rw [W21.size]; exact hk2
  refine own_go (B := (T21.setTop (mkF m 205 #[rv th, rv ar, iv ix, iv ct, rv ac, iv du, iv bu, rv ab, .val (.long mq), .second, rv am] [(.ref th)]))) (fun t k => XS.aloadN X21.here hx rfl (hb hby own_r9_d204) rfl rfl k) ?_
  refine own_go (B := (T21.setTop (mkF m 206 #[rv th, rv ar, iv ix, iv ct, rv ac, iv du, iv bu, rv ab, .val (.long mq), .second, rv am] [(.int ix), (.ref th)]))) (fun t k => XS.iloadN X21.here hx rfl (hb hby own_r9_d205) rfl k) ?_
  obtain ⟨T37, h37, X37, e37, W37, st37⟩ := putF X21 hx hZ2 ho2 (host := "") (Or.inl w_49) Via.refl e21 F26 F24 (Or.inr ⟨w_50, rfl, hnm⟩) w_9 (ty := .int) (by decide) rfl rfl (g := (mkF m 206 #[rv th, rv ar, iv ix, iv ct, rv ac, iv du, iv bu, rv ab, .val (.long mq), .second, rv am] [(.int ix), (.ref th)])) rfl rfl (hb hby own_r9_d206)
  refine own_go (B := (T37.setTop (mkF m 209 #[rv th, rv ar, iv ix, iv ct, rv ac, iv du, iv bu, rv ab, .val (.long mq), .second, rv am] []))) st37 ?_
  obtain ⟨L37, X37, N37⟩ := own_abs X37 (Fr.snoc X37 N21 H9001)
  have F38 : n0 ≤ h37.size := by rw [W37.size]; exact F22
  have F39 := Keep.wr F23 W37 (Or.inl (List.mem_of_getElem? (i := 0) rfl))
  have F40 := Exa.wr W37 F24
  have F41 := Fld.other W37 F25 (Or.inr (slot_ne (t := (.object "java/lang/String")) (t' := .int) (Or.inr w_48) (Or.inr w_50) (by decide) (by decide) (by decide)))
  have F42 := Fld.same W37 F26
  have F43 := Fld.other W37 F27 (Or.inr (slot_ne (t := .int) (t' := .int) (Or.inr w_52) (Or.inr w_50) (by decide) (by decide) (by decide)))
  have F44 := Fld.other W37 F28 (Or.inr (slot_ne (t := (.object "com/example/sluicegate/sluicegate/rule/HotParameterRule$Counts")) (t' := .int) (Or.inr w_54) (Or.inr w_50) (by decide) (by decide) (by decide)))
  have F45 := Fld.other W37 F29 (Or.inr (slot_ne (t := .int) (t' := .int) (Or.inr w_56) (Or.inr w_50) (by decide) (by decide) (by decide)))
  have F46 := Fld.other W37 F30 (Or.inr (slot_ne (t := .int) (t' := .int) (Or.inr w_58) (Or.inr w_50) (by decide) (by decide) (by decide)))
  have F47 := Fld.other W37 F31 (Or.inr (slot_ne (t := (.object "com/example/sluicegate/sluicegate/rule/HotParameterRule$Behaviour")) (t' := .int) (Or.inr w_60) (Or.inr w_50) (by decide) (by decide) (by decide)))
  have F48 := Fld.other W37 F32 (Or.inr (slot_ne (t := .long) (t' := .int) (Or.inr w_62) (Or.inr w_50) (by decide) (by decide) (by decide)))
  have F49 := Fld.other W37 F33 (Or.inr (slot_ne (t := (.object "java/util/Map")) (t' := .int) (Or.inr w_64) (Or.inr w_50) (by decide) (by decide) (by decide)))
  have F50 := Sta.wr W37 F34
  have F51 := Sta.wr W37 F35
  have F52 : k2 ≤ h37.size := by rw [W37.size]; exact F36
  refine own_go (B := (T37.setTop (mkF m 210 #[rv th, rv ar, iv ix, iv ct, rv ac, iv du, iv bu, rv ab, .val (.long mq), .second, rv am] [(.ref th)]))) (fun t k => XS.aloadN X37.here hx rfl (hb hby own_r9_d209) rfl rfl k) ?_
  refine own_go (B := (T37.setTop (mkF m 211 #[rv th, rv ar, iv ix, iv ct, rv ac, iv du, iv bu, rv ab, .val (.long mq), .second, rv am] [(.int ct), (.ref th)]))) (fun t k => XS.iloadN X37.here hx rfl (hb hby own_r9_d210) rfl k) ?_
  obtain ⟨T53, h53, X53, e53, W53, st53⟩ := putF X37 hx hZ2 ho2 (host := "") (Or.inl w_51) Via.refl e37 F43 F40 (Or.inr ⟨w_52, rfl, hnm⟩) w_9 (ty := .int) (by decide) rfl rfl (g := (mkF m 211 #[rv th, rv ar, iv ix, iv ct, rv ac, iv du, iv bu, rv ab, .val (.long mq), .second, rv am] [(.int ct), (.ref th)])) rfl rfl (hb hby own_r9_d211)
  refine own_go (B := (T53.setTop (mkF m 214 #[rv th, rv ar, iv ix, iv ct, rv ac, iv du, iv bu, rv ab, .val (.long mq), .second, rv am] []))) st53 ?_
  obtain ⟨L53, X53, N53⟩ := own_abs X53 (Fr.snoc X53 N37 H9001)
  have F54 : n0 ≤ h53.size := by rw [W53.size]; exact F38
  have F55 := Keep.wr F39 W53 (Or.inl (List.mem_of_getElem? (i := 0) rfl))
  have F56 := Exa.wr W53 F40
  have F57 := Fld.other W53 F41 (Or.inr (slot_ne (t := (.object "java/lang/String")) (t' := .int) (Or.inr w_48) (Or.inr w_52) (by decide) (by decide) (by decide)))
  have F58 := Fld.other W53 F42 (Or.inr (slot_ne (t := .int) (t' := .int) (Or.inr w_50) (Or.inr w_52) (by decide) (by decide) (by decide)))
  have F59 := Fld.same W53 F43
  have F60 := Fld.other W53 F44 (Or.inr (slot_ne (t := (.object "com/example/sluicegate/sluicegate/rule/HotParameterRule$Counts")) (t' := .int) (Or.inr w_54) (Or.inr w_52) (by decide) (by decide) (by decide)))
  have F61 := Fld.other W53 F45 (Or.inr (slot_ne (t := .int) (t' := .int) (Or.inr w_56) (Or.inr w_52) (by decide) (by decide) (by decide)))
  have F62 := Fld.other W53 F46 (Or.inr (slot_ne (t := .int) (t' := .int) (Or.inr w_58) (Or.inr w_52) (by decide) (by decide) (by decide)))
  have F63 := Fld.other W53 F47 (Or.inr (slot_ne (t := (.object "com/example/sluicegate/sluicegate/rule/HotParameterRule$Behaviour")) (t' := .int) (Or.inr w_60) (Or.inr w_52) (by decide) (by decide) (by decide)))
  have F64 := Fld.other W53 F48 (Or.inr (slot_ne (t := .long) (t' := .int) (Or.inr w_62) (Or.inr w_52) (by decide) (by decide) (by decide)))
  have F65 := Fld.other W53 F49 (Or.inr (slot_ne (t := (.object "java/util/Map")) (t' := .int) (Or.inr w_64) (Or.inr w_52) (by decide) (by decide) (by decide)))
  have F66 := Sta.wr W53 F50
  have F67 := Sta.wr W53 F51
  have F68 : k2 ≤ h53.size := by rw [W53.size]; exact F52
  refine own_go (B := (T53.setTop (mkF m 215 #[rv th, rv ar, iv ix, iv ct, rv ac, iv du, iv bu, rv ab, .val (.long mq), .second, rv am] [(.ref th)]))) (fun t k => XS.aloadN X53.here hx rfl (hb hby own_r9_d214) rfl rfl k) ?_
  refine own_go (B := (T53.setTop (mkF m 217 #[rv th, rv ar, iv ix, iv ct, rv ac, iv du, iv bu, rv ab, .val (.long mq), .second, rv am] [(.ref ac), (.ref th)]))) (fun t k => XS.aload X53.here hx rfl (hb hby own_r9_d215) rfl rfl k) ?_
  obtain ⟨T69, h69, X69, e69, W69, st69⟩ := putF X53 hx hZ2 ho2 (host := "") (Or.inl w_53) Via.refl e53 F60 F56 (Or.inr ⟨w_54, rfl, hnm⟩) w_9 (ty := (.object "com/example/sluicegate/sluicegate/rule/HotParameterRule$Counts")) (by decide) rfl rfl (g := (mkF m 217 #[rv th, rv ar, iv ix, iv ct, rv ac, iv du, iv bu, rv ab, .val (.long mq), .second, rv am] [(.ref ac), (.ref th)])) rfl rfl (hb hby own_r9_d217)
  refine own_go (B := (T69.setTop (mkF m 220 #[rv th, rv ar, iv ix, iv ct, rv ac, iv du, iv bu, rv ab, .val (.long mq), .second, rv am] []))) st69 ?_
  obtain ⟨L69, X69, N69⟩ := own_abs X69 (Fr.snoc X69 N53 H9001)
  have F70 : n0 ≤ h69.size := by rw [W69.size]; exact F54
  have F71 := Keep.wr F55 W69 (Or.inl (List.mem_of_getElem? (i := 0) rfl))
  have F72 := Exa.wr W69 F56
  have F73 := Fld.other W69 F57 (Or.inr (slot_ne (t := (.object "java/lang/String")) (t' := (.object "com/example/sluicegate/sluicegate/rule/HotParameterRule$Counts")) (Or.inr w_48) (Or.inr w_54) (by decide) (by decide) (by decide)))
  have F74 := Fld.other W69 F58 (Or.inr (slot_ne (t := .int) (t' := (.object "com/example/sluicegate/sluicegate/rule/HotParameterRule$Counts")) (Or.inr w_50) (Or.inr w_54) (by decide) (by decide) (by decide)))
  have F75 := Fld.other W69 F59 (Or.inr (slot_ne (t := .int) (t' := (.object "com/example/sluicegate/sluicegate/rule/HotParameterRule$Counts")) (Or.inr w_52) (Or.inr w_54) (by decide) (by decide) (by decide)))
  have F76 := Fld.same W69 F60
  have F77 := Fld.other W69 F61 (Or.inr (slot_ne (t := .int) (t' := (.object "com/example/sluicegate/sluicegate/rule/HotParameterRule$Counts")) (Or.inr w_56) (Or.inr w_54) (by decide) (by decide) (by decide)))
  have F78 := Fld.other W69 F62 (Or.inr (slot_ne (t := .int) (t' := (.object "com/example/sluicegate/sluicegate/rule/HotParameterRule$Counts")) (Or.inr w_58) (Or.inr w_54) (by decide) (by decide) (by decide)))
  have F79 := Fld.other W69 F63 (Or.inr (slot_ne (t := (.object "com/example/sluicegate/sluicegate/rule/HotParameterRule$Behaviour")) (t' := (.object "com/example/sluicegate/sluicegate/rule/HotParameterRule$Counts")) (Or.inr w_60) (Or.inr w_54) (by decide) (by decide) (by decide)))
  have F80 := Fld.other W69 F64 (Or.inr (slot_ne (t := .long) (t' := (.object "com/example/sluicegate/sluicegate/rule/HotParameterRule$Counts")) (Or.inr w_62) (Or.inr w_54) (by decide) (by decide) (by decide)))
  have F81 := Fld.other W69 F65 (Or.inr (slot_ne (t := (.object "java/util/Map")) (t' := (.object "com/example/sluicegate/sluicegate/rule/HotParameterRule$Counts")) (Or.inr w_64) (Or.inr w_54) (by decide) (by decide) (by decide)))
  have F82 := Sta.wr W69 F66
  have F83 := Sta.wr W69 F67
  have F84 : k2 ≤ h69.size := by rw [W69.size]; exact F68
  refine own_go (B := (T69.setTop (mkF m 221 #[rv th, rv ar, iv ix, iv ct, rv ac, iv du, iv bu, rv ab, .val (.long mq), .second, rv am] [(.ref th)]))) (fun t k => XS.aloadN X69.here hx rfl (hb hby own_r9_d220) rfl rfl k) ?_
  refine own_go (B := (T69.setTop (mkF m 223 #[rv th, rv ar, iv ix, iv ct, rv ac, iv du, iv bu, rv ab, .val (.long mq), .second, rv am] [(.int du), (.ref th)]))) (fun t k => XS.iload X69.here hx rfl (hb hby own_r9_d221) rfl k) ?_
  obtain ⟨T85, h85, X85, e85, W85, st85⟩ := putF X69 hx hZ2 ho2 (host := "") (Or.inl w_55) Via.refl e69 F77 F72 (Or.inr ⟨w_56, rfl, hnm⟩) w_9 (ty := .int) (by decide) rfl rfl (g := (mkF m 223 #[rv th, rv ar, iv ix, iv ct, rv ac, iv du, iv bu, rv ab, .val (.long mq), .second, rv am] [(.int du), (.ref th)])) rfl rfl (hb hby own_r9_d223)
  refine own_go (B := (T85.setTop (mkF m 226 #[rv th, rv ar, iv ix, iv ct, rv ac, iv du, iv bu, rv ab, .val (.long mq), .second, rv am] []))) st85 ?_
  obtain ⟨L85, X85, N85⟩ := own_abs X85 (Fr.snoc X85 N69 H9001)
  have F86 : n0 ≤ h85.size := by rw [W85.size]; exact F70
  have F87 := Keep.wr F71 W85 (Or.inl (List.mem_of_getElem? (i := 0) rfl))
  have F88 := Exa.wr W85 F72
  have F89 := Fld.other W85 F73 (Or.inr (slot_ne (t := (.object "java/lang/String")) (t' := .int) (Or.inr w_48) (Or.inr w_56) (by decide) (by decide) (by decide)))
  have F90 := Fld.other W85 F74 (Or.inr (slot_ne (t := .int) (t' := .int) (Or.inr w_50) (Or.inr w_56) (by decide) (by decide) (by decide)))
  have F91 := Fld.other W85 F75 (Or.inr (slot_ne (t := .int) (t' := .int) (Or.inr w_52) (Or.inr w_56) (by decide) (by decide) (by decide)))
  have F92 := Fld.other W85 F76 (Or.inr (slot_ne (t := (.object "com/example/sluicegate/sluicegate/rule/HotParameterRule$Counts")) (t' := .int) (Or.inr w_54) (Or.inr w_56) (by decide) (by decide) (by decide)))
  have F93 := Fld.same W85 F77
  have F94 := Fld.other W85 F78 (Or.inr (slot_ne (t := .int) (t' := .int) (Or.inr w_58) (Or.inr w_56) (by decide) (by decide) (by decide)))
  have F95 := Fld.other W85 F79 (Or.inr (slot_ne (t := (.object "com/example/sluicegate/sluicegate/rule/HotParameterRule$Behaviour")) (t' := .int) (Or.inr w_60) (Or.inr w_56) (by decide) (by decide) (by decide)))
  have F96 := Fld.other W85 F80 (Or.inr (slot_ne (t := .long) (t' := .int) (Or.inr w_62) (Or.inr w_56) (by decide) (by decide) (by decide)))
  have F97 := Fld.other W85 F81 (Or.inr (slot_ne (t := (.object "java/util/Map")) (t' := .int) (Or.inr w_64) (Or.inr w_56) (by decide) (by decide) (by decide)))
  have F98 := Sta.wr W85 F82
  have F99 := Sta.wr W85 F83
  have F100 : k2 ≤ h85.size := by rw [W85.size]; exact F84
  refine own_go (B := (T85.setTop (mkF m 227 #[rv th, rv ar, iv ix, iv ct, rv ac, iv du, iv bu, rv ab, .val (.long mq), .second, rv am] [(.ref th)]))) (fun t k => XS.aloadN X85.here hx rfl (hb hby own_r9_d226) rfl rfl k) ?_
  refine own_go (B := (T85.setTop (mkF m 229 #[rv th, rv ar, iv ix, iv ct, rv ac, iv du, iv bu, rv ab, .val (.long mq), .second, rv am] [(.int bu), (.ref th)]))) (fun t k => XS.iload X85.here hx rfl (hb hby own_r9_d227) rfl k) ?_
  obtain ⟨T101, h101, X101, e101, W101, st101⟩ := putF X85 hx hZ2 ho2 (host := "") (Or.inl w_57) Via.refl e85 F94 F88 (Or.inr ⟨w_58, rfl, hnm⟩) w_9 (ty := .int) (by decide) rfl rfl (g := (mkF m 229 #[rv th, rv ar, iv ix, iv ct, rv ac, iv du, iv bu, rv ab, .val (.long mq), .second, rv am] [(.int bu), (.ref th)])) rfl rfl (hb hby own_r9_d229)
  refine own_go (B := (T101.setTop (mkF m 232 #[rv th, rv ar, iv ix, iv ct, rv ac, iv du, iv bu, rv ab, .val (.long mq), .second, rv am] []))) st101 ?_
  obtain ⟨L101, X101, N101⟩ := own_abs X101 (Fr.snoc X101 N85 H9001)
  have F102 : n0 ≤ h101.size := by rw [W101.size]; exact F86
  have F103 := Keep.wr F87 W101 (Or.inl (List.mem_of_getElem? (i := 0) rfl))
  have F104 := Exa.wr W101 F88
  have F105 := Fld.other W101 F89 (Or.inr (slot_ne (t := (.object "java/lang/String")) (t' := .int) (Or.inr w_48) (Or.inr w_58) (by decide) (by decide) (by decide)))
  have F106 := Fld.other W101 F90 (Or.inr (slot_ne (t := .int) (t' := .int) (Or.inr w_50) (Or.inr w_58) (by decide) (by decide) (by decide)))
  have F107 := Fld.other W101 F91 (Or.inr (slot_ne (t := .int) (t' := .int) (Or.inr w_52) (Or.inr w_58) (by decide) (by decide) (by decide)))
  have F108 := Fld.other W101 F92 (Or.inr (slot_ne (t := (.object "com/example/sluicegate/sluicegate/rule/HotParameterRule$Counts")) (t' := .int) (Or.inr w_54) (Or.inr w_58) (by decide) (by decide) (by decide)))
  have F109 := Fld.other W101 F93 (Or.inr (slot_ne (t := .int) (t' := .int) (Or.inr w_56) (Or.inr w_58) (by decide) (by decide) (by decide)))
  have F110 := Fld.same W101 F94
  have F111 := Fld.other W101 F95 (Or.inr (slot_ne (t := (.object "com/example/sluicegate/sluicegate/rule/HotParameterRule$Behaviour")) (t' := .int) (Or.inr w_60) (Or.inr w_58) (by decide) (by decide) (by decide)))
  have F112 := Fld.other W101 F96 (Or.inr (slot_ne (t := .long) (t' := .int) (Or.inr w_62) (Or.inr w_58) (by decide) (by decide) (by decide)))
  have F113 := Fld.other W101 F97 (Or.inr (slot_ne (t := (.object "java/util/Map")) (t' := .int) (Or.inr w_64) (Or.inr w_58) (by decide) (by decide) (by decide)))
  have F114 := Sta.wr W101 F98
  have F115 := Sta.wr W101 F99
  have F116 : k2 ≤ h101.size := by rw [W101.size]; exact F100
  refine own_go (B := (T101.setTop (mkF m 233 #[rv th, rv ar, iv ix, iv ct, rv ac, iv du, iv bu, rv ab, .val (.long mq), .second, rv am] [(.ref th)]))) (fun t k => XS.aloadN X101.here hx rfl (hb hby own_r9_d232) rfl rfl k) ?_
  refine own_go (B := (T101.setTop (mkF m 235 #[rv th, rv ar, iv ix, iv ct, rv ac, iv du, iv bu, rv ab, .val (.long mq), .second, rv am] [(.ref ab), (.ref th)]))) (fun t k => XS.aload X101.here hx rfl (hb hby own_r9_d233) rfl rfl k) ?_
  obtain ⟨T117, h117, X117, e117, W117, st117⟩ := putF X101 hx hZ2 ho2 (host := "") (Or.inl w_59) Via.refl e101 F111 F104 (Or.inr ⟨w_60, rfl, hnm⟩) w_9 (ty := (.object "com/example/sluicegate/sluicegate/rule/HotParameterRule$Behaviour")) (by decide) rfl rfl (g := (mkF m 235 #[rv th, rv ar, iv ix, iv ct, rv ac, iv du, iv bu, rv ab, .val (.long mq), .second, rv am] [(.ref ab), (.ref th)])) rfl rfl (hb hby own_r9_d235)
  refine own_go (B := (T117.setTop (mkF m 238 #[rv th, rv ar, iv ix, iv ct, rv ac, iv du, iv bu, rv ab, .val (.long mq), .second, rv am] []))) st117 ?_
  obtain ⟨L117, X117, N117⟩ := own_abs X117 (Fr.snoc X117 N101 H9001)
  have F118 : n0 ≤ h117.size := by rw [W117.size]; exact F102
  have F119 := Keep.wr F103 W117 (Or.inl (List.mem_of_getElem? (i := 0) rfl))
  have F120 := Exa.wr W117 F104
  have F121 := Fld.other W117 F105 (Or.inr (slot_ne (t := (.object "java/lang/String")) (t' := (.object "com/example/sluicegate/sluicegate/rule/HotParameterRule$Behaviour")) (Or.inr w_48) (Or.inr w_60) (by decide) (by decide) (by decide)))
  have F122 := Fld.other W117 F106 (Or.inr (slot_ne (t := .int) (t' := (.object "com/example/sluicegate/sluicegate/rule/HotParameterRule$Behaviour")) (Or.inr w_50) (Or.inr w_60) (by decide) (by decide) (by decide)))
  have F123 := Fld.other W117 F107 (Or.inr (slot_ne (t := .int) (t' := (.object "com/example/sluicegate/sluicegate/rule/HotParameterRule$Behaviour")) (Or.inr w_52) (Or.inr w_60) (by decide) (by decide) (by decide)))
  have F124 := Fld.other W117 F108 (Or.inr (slot_ne (t := (.object "com/example/sluicegate/sluicegate/rule/HotParameterRule$Counts")) (t' := (.object "com/example/sluicegate/sluicegate/rule/HotParameterRule$Behaviour")) (Or.inr w_54) (Or.inr w_60) (by decide) (by decide) (by decide)))
  have F125 := Fld.other W117 F109 (Or.inr (slot_ne (t := .int) (t' := (.object "com/example/sluicegate/sluicegate/rule/HotParameterRule$Behaviour")) (Or.inr w_56) (Or.inr w_60) (by decide) (by decide) (by decide)))
  have F126 := Fld.other W117 F110 (Or.inr (slot_ne (t := .int) (t' := (.object "com/example/sluicegate/sluicegate/rule/HotParameterRule$Behaviour")) (Or.inr w_58) (Or.inr w_60) (by decide) (by decide) (by decide)))
  have F127 := Fld.same W117 F111
  have F128 := Fld.other W117 F112 (Or.inr (slot_ne (t := .long) (t' := (.object "com/example/sluicegate/sluicegate/rule/HotParameterRule$Behaviour")) (Or.inr w_62) (Or.inr w_60) (by decide) (by decide) (by decide)))
  have F129 := Fld.other W117 F113 (Or.inr (slot_ne (t := (.object "java/util/Map")) (t' := (.object "com/example/sluicegate/sluicegate/rule/HotParameterRule$Behaviour")) (Or.inr w_64) (Or.inr w_60) (by decide) (by decide) (by decide)))
  have F130 := Sta.wr W117 F114
  have F131 := Sta.wr W117 F115
  have F132 : k2 ≤ h117.size := by rw [W117.size]; exact F116
  refine own_go (B := (T117.setTop (mkF m 239 #[rv th, rv ar, iv ix, iv ct, rv ac, iv du, iv bu, rv ab, .val (.long mq), .second, rv am] [(.ref th)]))) (fun t k => XS.aloadN X117.here hx rfl (hb hby own_r9_d238) rfl rfl k) ?_
  refine own_go (B := (T117.setTop (mkF m 241 #[rv th, rv ar, iv ix, iv ct, rv ac, iv du, iv bu, rv ab, .val (.long mq), .second, rv am] [(.long mq), (.ref th)]))) (fun t k => XS.lload X117.here hx rfl (hb hby own_r9_d239) rfl k) ?_
  obtain ⟨T133, h133, X133, e133, W133, st133⟩ := putF X117 hx hZ2 ho2 (host := "") (Or.inl w_61) Via.refl e117 F128 F120 (Or.inr ⟨w_62, rfl, hnm⟩) w_9 (ty := .long) (by decide) rfl rfl (g := (mkF m 241 #[rv th, rv ar, iv ix, iv ct, rv ac, iv du, iv bu, rv ab, .val (.long mq), .second, rv am] [(.long mq), (.ref th)])) rfl rfl (hb hby own_r9_d241)
  refine own_go (B := (T133.setTop (mkF m 244 #[rv th, rv ar, iv ix, iv ct, rv ac, iv du, iv bu, rv ab, .val (.long mq), .second, rv am] []))) st133 ?_
  obtain ⟨L133, X133, N133⟩ := own_abs X133 (Fr.snoc X133 N117 H9001)
  have F134 : n0 ≤ h133.size := by rw [W133.size]; exact F118
  have F135 := Keep.wr F119 W133 (Or.inl (List.mem_of_getElem? (i := 0) rfl))
  have F136 := Exa.wr W133 F120
  have F137 := Fld.other W133 F121 (Or.inr (slot_ne (t := (.object "java/lang/String")) (t' := .long) (Or.inr w_48) (Or.inr w_62) (by decide) (by decide) (by decide)))
  have F138 := Fld.other W133 F122 (Or.inr (slot_ne (t := .int) (t' := .long) (Or.inr w_50) (Or.inr w_62) (by decide) (by decide) (by decide)))
  have F139 := Fld.other W133 F123 (Or.inr (slot_ne (t := .int) (t' := .long) (Or.inr w_52) (Or.inr w_62) (by decide) (by decide) (by decide)))
  have F140 := Fld.other W133 F124 (Or.inr (slot_ne (t := (.object "com/example/sluicegate/sluicegate/rule/HotParameterRule$Counts")) (t' := .long) (Or.inr w_54) (Or.inr w_62) (by decide) (by decide) (by decide)))
  have F141 := Fld.other W133 F125 (Or.inr (slot_ne (t := .int) (t' := .long) (Or.inr w_56) (Or.inr w_62) (by decide) (by decide) (by decide)))
  have F142 := Fld.other W133 F126 (Or.inr (slot_ne (t := .int) (t' := .long) (Or.inr w_58) (Or.inr w_62) (by decide) (by decide) (by decide)))
  have F143 := Fld.other W133 F127 (Or.inr (slot_ne (t := (.object "com/example/sluicegate/sluicegate/rule/HotParameterRule$Behaviour")) (t' := .long) (Or.inr w_60) (Or.inr w_62) (by decide) (by decide) (by decide)))
  have F144 := Fld.same W133 F128
  have F145 := Fld.other W133 F129 (Or.inr (slot_ne (t := (.object "java/util/Map")) (t' := .long) (Or.inr w_64) (Or.inr w_62) (by decide) (by decide) (by decide)))
  have F146 := Sta.wr W133 F130
  have F147 := Sta.wr W133 F131
  have F148 : k2 ≤ h133.size := by rw [W133.size]; exact F132
  refine own_go (B := (T133.setTop (mkF m 245 #[rv th, rv ar, iv ix, iv ct, rv ac, iv du, iv bu, rv ab, .val (.long mq), .second, rv am] [(.ref th)]))) (fun t k => XS.aloadN X133.here hx rfl (hb hby own_r9_d244) rfl rfl k) ?_
  refine own_go (B := (T133.setTop (mkF m 247 #[rv th, rv ar, iv ix, iv ct, rv ac, iv du, iv bu, rv ab, .val (.long mq), .second, rv am] [(.ref am), (.ref th)]))) (fun t k => XS.aload X133.here hx rfl (hb hby own_r9_d245) rfl rfl k) ?_
  obtain ⟨T149, h149, X149, e149, W149, st149⟩ := putF X133 hx hZ2 ho2 (host := "") (Or.inl w_63) Via.refl e133 F145 F136 (Or.inr ⟨w_64, rfl, hnm⟩) w_9 (ty := (.object "java/util/Map")) (by decide) rfl rfl (g := (mkF m 247 #[rv th, rv ar, iv ix, iv ct, rv ac, iv du, iv bu, rv ab, .val (.long mq), .second, rv am] [(.ref am), (.ref th)])) rfl rfl (hb hby own_r9_d247)
  refine own_go (B := (T149.setTop (mkF m 250 #[rv th, rv ar, iv ix, iv ct, rv ac, iv du, iv bu, rv ab, .val (.long mq), .second, rv am] []))) st149 ?_
  obtain ⟨L149, X149, N149⟩ := own_abs X149 (Fr.snoc X149 N133 H9001)
  have F150 : n0 ≤ h149.size := by rw [W149.size]; exact F134
  have F151 := Keep.wr F135 W149 (Or.inl (List.mem_of_getElem? (i := 0) rfl))
  have F152 := Exa.wr W149 F136
  have F153 := Fld.other W149 F137 (Or.inr (slot_ne (t := (.object "java/lang/String")) (t' := (.object "java/util/Map")) (Or.inr w_48) (Or.inr w_64) (by decide) (by decide) (by decide)))
  have F154 := Fld.other W149 F138 (Or.inr (slot_ne (t := .int) (t' := (.object "java/util/Map")) (Or.inr w_50) (Or.inr w_64) (by decide) (by decide) (by decide)))
  have F155 := Fld.other W149 F139 (Or.inr (slot_ne (t := .int) (t' := (.object "java/util/Map")) (Or.inr w_52) (Or.inr w_64) (by decide) (by decide) (by decide)))
  have F156 := Fld.other W149 F140 (Or.inr (slot_ne (t := (.object "com/example/sluicegate/sluicegate/rule/HotParameterRule$Counts")) (t' := (.object "java/util/Map")) (Or.inr w_54) (Or.inr w_64) (by decide) (by decide) (by decide)))
  have F157 := Fld.other W149 F141 (Or.inr (slot_ne (t := .int) (t' := (.object "java/util/Map")) (Or.inr w_56) (Or.inr w_64) (by decide) (by decide) (by decide)))
  have F158 := Fld.other W149 F142 (Or.inr (slot_ne (t := .int) (t' := (.object "java/util/Map")) (Or.inr w_58) (Or.inr w_64) (by decide) (by decide) (by decide)))
  have F159 := Fld.other W149 F143 (Or.inr (slot_ne (t := (.object "com/example/sluicegate/sluicegate/rule/HotParameterRule$Behaviour")) (t' := (.object "java/util/Map")) (Or.inr w_60) (Or.inr w_64) (by decide) (by decide) (by decide)))
  have F160 := Fld.other W149 F144 (Or.inr (slot_ne (t := .long) (t' := (.object "java/util/Map")) (Or.inr w_62) (Or.inr w_64) (by decide) (by decide) (by decide)))
  have F161 := Fld.same W149 F145
  have F162 := Sta.wr W149 F146
  have F163 := Sta.wr W149 F147
  have F164 : k2 ≤ h149.size := by rw [W149.size]; exact F148
  exact own_retWV X149 hx hlk hS2 (by rw [e149]; exact F164) Bd.returns (hb hby own_r9_d250) (own_b rfl) (own_b rfl) (Q := (own_r9_Q Z th ar ix ct ac du bu ab mq am ae h0 n0)) (by rw [e149]; exact ⟨rfl, N149, F151, F152, F153, F154, F155, F156, F157, F158, F159, F160, F161⟩)

theorem own_r3_d0 : decode prog_38_method_1_code 0 = .ok (.aload_n 0, 1) := by decide +kernel
theorem own_r3_d1 : decode prog_38_method_1_code 1 = .ok (.aload_n 1, 1) := by decide +kernel
theorem own_r3_d2 : decode prog_38_method_1_code 2 = .ok (.iload_n 2, 1) := by decide +kernel
theorem own_r3_d3 : decode prog_38_method_1_code 3 = .ok (.iload_n 3, 1) := by decide +kernel
theorem own_r3_d4 : decode prog_38_method_1_code 4 = .ok (.getstatic 5, 3) := by decide +kernel
theorem own_r3_d7 : decode prog_38_method_1_code 7 = .ok (.iconst 1, 1) := by decide +kernel
theorem own_r3_d8 : decode prog_38_method_1_code 8 = .ok (.iconst 0, 1) := by decide +kernel
theorem own_r3_d9 : decode prog_38_method_1_code 9 = .ok (.getstatic 11, 3) := by decide +kernel
theorem own_r3_d12 : decode prog_38_method_1_code 12 = .ok (.lconst 0, 1) := by decide +kernel
theorem own_r3_d13 : decode prog_38_method_1_code 13 = .ok (.invokestatic 17, 3) := by decide +kernel
theorem own_r3_d16 : decode prog_38_method_1_code 16 = .ok (.invokespecial 23, 3) := by decide +kernel
theorem own_r3_d19 : decode prog_38_method_1_code 19 = .ok (.return_, 1) := by decide +kernel
theorem own_r3_pn : plainName "com/example/sluicegate/sluicegate/rule/HotParameterRule" = true := by first | (simp [plainName, overriddenIn]; done) | decide +kernel
theorem own_r3_ef (m : MethodId) (th : Addr) (ar : Addr) (ct : Int32) : entryFrame m #[(.ref th), (.ref ar), (.int (0 : Int32)), (.int ct)] 4 = mkF m 0 #[rv th, rv ar, iv (0 : Int32), iv ct] [] := by first | (simp [entryFrame, mkF, argsToLocals, Value.category]; done) | rfl
def own_r3_Q (Z : State) (th : Addr) (ar : Addr) (ct : Int32) (ac ae ab am : Addr) (h0 : Heap) (n0 : Nat) (v : Option Value) (h : Heap) (L : List Loc) : Prop := v = none ∧ Fr n0 L ∧ Keep h0 h [th] ∧ Exa Z h th "com/example/sluicegate/sluicegate/rule/HotParameterRule" ∧ Fld Z h th "com/example/sluicegate/sluicegate/rule/HotParameterRule" "resource" "Ljava/lang/String;" (.ref ar) ∧ Fld Z h th "com/example/sluicegate/sluicegate/rule/HotParameterRule" "argumentIndex" "I" (.int (0 : Int32)) ∧ Fld Z h th "com/example/sluicegate/sluicegate/rule/HotParameterRule" "count" "I" (.int ct) ∧ Fld Z h th "com/example/sluicegate/sluicegate/rule/HotParameterRule" "counts" "Lcom/example/sluicegate/sluicegate/rule/HotParameterRule$Counts;" (.ref ac) ∧ Fld Z h th "com/example/sluicegate/sluicegate/rule/HotParameterRule" "durationSeconds" "I" (.int (1 : Int32)) ∧ Fld Z h th "com/example/sluicegate/sluicegate/rule/HotParameterRule" "burst" "I" (.int (0 : Int32)) ∧ Fld Z h th "com/example/sluicegate/sluicegate/rule/HotParameterRule" "behaviour" "Lcom/example/sluicegate/sluicegate/rule/HotParameterRule$Behaviour;" (.ref ab) ∧ Fld Z h th "com/example/sluicegate/sluicegate/rule/HotParameterRule" "maxQueueingMillis" "J" (.long (0 : Int64)) ∧ Fld Z h th "com/example/sluicegate/sluicegate/rule/HotParameterRule" "valueCounts" "Ljava/util/Map;" (.ref am)
set_option maxRecDepth 65536 in
set_option maxHeartbeats 40000000 in
theorem own_r3 (l : Launch) (Z : State) (a0 : Array Value) (hw : ∀ d ∈ tables_1, d.before a0 Z = true) (ws : List Jvm.Cond) (th : Addr) (ar : Addr) (ct : Int32) (ac ae ab am : Addr) (h0 : Heap) (n0 : Nat) (Z0 : n0 ≤ h0.size) (H9000 : Exa Z h0 th "com/example/sluicegate/sluicegate/rule/HotParameterRule") (H9001 : n0 ≤ th) (H9002 : Fld Z h0 th "com/example/sluicegate/sluicegate/rule/HotParameterRule" "resource" "Ljava/lang/String;" .null) (H9003 : Fld Z h0 th "com/example/sluicegate/sluicegate/rule/HotParameterRule" "argumentIndex" "I" (.int (0 : Int32))) (H9004 : Fld Z h0 th "com/example/sluicegate/sluicegate/rule/HotParameterRule" "count" "I" (.int (0 : Int32))) (H9005 : Fld Z h0 th "com/example/sluicegate/sluicegate/rule/HotParameterRule" "counts" "Lcom/example/sluicegate/sluicegate/rule/HotParameterRule$Counts;" .null) (H9006 : Fld Z h0 th "com/example/sluicegate/sluicegate/rule/HotParameterRule" "durationSeconds" "I" (.int (0 : Int32))) (H9007 : Fld Z h0 th "com/example/sluicegate/sluicegate/rule/HotParameterRule" "burst" "I" (.int (0 : Int32))) (H9008 : Fld Z h0 th "com/example/sluicegate/sluicegate/rule/HotParameterRule" "behaviour" "Lcom/example/sluicegate/sluicegate/rule/HotParameterRule$Behaviour;" .null) (H9009 : Fld Z h0 th "com/example/sluicegate/sluicegate/rule/HotParameterRule" "maxQueueingMillis" "J" (.long (0 : Int64))) (H9010 : Fld Z h0 th "com/example/sluicegate/sluicegate/rule/HotParameterRule" "valueCounts" "Ljava/util/Map;" .null) (H9011 : Sta Z h0 "com/example/sluicegate/sluicegate/rule/HotParameterRule$Counts" "PERMITS" "Lcom/example/sluicegate/sluicegate/rule/HotParameterRule$Counts;" (.ref ac)) (H9012 : Sta Z h0 "com/example/sluicegate/sluicegate/rule/HotParameterRule$Counts" "ENTRIES" "Lcom/example/sluicegate/sluicegate/rule/HotParameterRule$Counts;" (.ref ae)) (H9013 : ac ≠ ae) (H9014 : Sta Z h0 "com/example/sluicegate/sluicegate/rule/HotParameterRule$Behaviour" "FAST_FAIL" "Lcom/example/sluicegate/sluicegate/rule/HotParameterRule$Behaviour;" (.ref ab)) (H9015 : Sta Z h0 "java/util/ImmutableCollections" "EMPTY_MAP" "Ljava/util/ImmutableCollections$MapN;" (.ref am)) :
    MetFree l own_y28 (head1 (Jvm.Cond.code own_y28 prog_38_method_1_code 4 none :: ws) ({ frames := 2, cells := 2, slots := 36, locals := 35 } : Room)) (fun a U => a = #[(.ref th), (.ref ar), (.int (0 : Int32)), (.int ct)] ∧ Z.Warmed39 U.vm ∧ U.heap = h0) (fun _ _ _ _ _ => True) (fun _ U o U' => ∃ v L, o = .returned v ∧ (own_r3_Q Z th ar ct ac ae ab am h0 n0) v U'.heap L ∧ ReturnedEndW U o U' L ({ frames := 2, cells := 2, slots := 36, locals := 35 } : Room).cells ({ frames := 2, cells := 2, slots := 36, locals := 35 } : Room).slots) := by
  refine MetFree.of_bodySF (plainFor_of_name own_r3_pn) hisR ?_
  intro p e s m args below meth c s₁ Bd hml0 hP hK
  obtain ⟨rfl, hZ, hh⟩ := hP
  have hx := Bd.exec
  have hby := Bd.bytes
  have hml : c.maxLocals = 4 := hml0
  have hown : s.vm.findClass "com/example/sluicegate/sluicegate/rule/HotParameterRule" = some m.cls := findClass_of_methodNamed Bd.named
  have hnm := (name_of_methodNamed Bd.named Bd.method).1
  have hlk : meth.locks = false := Bd.notSynchronized
  have X0 : Stand p l e ({ frames := 2, cells := 2, slots := 36, locals := 35 } : Room) (s.setVm s.vm) m #[(.ref th), (.ref ar), (.int (0 : Int32)), (.int ct)] below meth c s₁ [] 0 0 := Stand.of_body Bd
  have hS0 : s.Since s.vm 0 := own_since0 s 0
  have hk0 : 0 ≤ h0.size := Nat.zero_le _
  have hws := own_hws hw
  have e0 : s₁.heap = h0 := by rw [← hh, Bd.state]; rfl
  have N0 := Fr.nil n0
  have w_10 := hw _ (List.mem_of_getElem? (l := tables_1) (i := 10) rfl)
  have w_22 := hw _ (List.mem_of_getElem? (l := tables_1) (i := 22) rfl)
  have w_25 := hw _ (List.mem_of_getElem? (l := tables_1) (i := 25) rfl)
  have w_28 := hw _ (List.mem_of_getElem? (l := tables_1) (i := 28) rfl)
  have w_29 := hw _ (List.mem_of_getElem? (l := tables_1) (i := 29) rfl)
  have w_30 := hw _ (List.mem_of_getElem? (l := tables_1) (i := 30) rfl)
  have w_31 := hw _ (List.mem_of_getElem? (l := tables_1) (i := 31) rfl)
  have w_34 := hw _ (List.mem_of_getElem? (l := tables_1) (i := 34) rfl)
  have w_35 := hw _ (List.mem_of_getElem? (l := tables_1) (i := 35) rfl)
  have w_36 := hw _ (List.mem_of_getElem? (l := tables_1) (i := 36) rfl)
  show own_G p.tables e below (fun o U' => ∃ v L, o = .returned v ∧ (own_r3_Q Z th ar ct ac ae ab am h0 n0) v U'.heap L ∧ ReturnedEndW s o U' L ({ frames := 2, cells := 2, slots := 36, locals := 35 } : Room).cells ({ frames := 2, cells := 2, slots := 36, locals := 35 } : Room).slots) (s₁.setTop (entryFrame m #[(.ref th), (.ref ar), (.int (0 : Int32)), (.int ct)] 4))
  refine own_go (B := s₁.setTop (mkF m 0 #[rv th, rv ar, iv (0 : Int32), iv ct] [])) (fun t k => castTop (own_r3_ef m th ar ct) k) ?_
  have K0 := Keep.refl h0 [th]
  refine own_go (B := (s₁.setTop (mkF m 1 #[rv th, rv ar, iv (0 : Int32), iv ct] [(.ref th)]))) (fun t k => XS.aloadN X0.here hx rfl (hb hby own_r3_d0) rfl rfl k) ?_
  refine own_go (B := (s₁.setTop (mkF m 2 #[rv th, rv ar, iv (0 : Int32), iv ct] [(.ref ar), (.ref th)]))) (fun t k => XS.aloadN X0.here hx rfl (hb hby own_r3_d1) rfl rfl k) ?_
  refine own_go (B := (s₁.setTop (mkF m 3 #[rv th, rv ar, iv (0 : Int32), iv ct] [(.int (0 : Int32)), (.ref ar), (.ref th)]))) (fun t k => XS.iloadN X0.here hx rfl (hb hby own_r3_d2) rfl k) ?_
  refine own_go (B := (s₁.setTop (mkF m 4 #[rv th, rv ar, iv (0 : Int32), iv ct] [(.int ct), (.int (0 : Int32)), (.ref ar), (.ref th)]))) (fun t k => XS.iloadN X0.here hx rfl (hb hby own_r3_d3) rfl k) ?_
  obtain ⟨T1, X1, e1, st1⟩ := getS X0 hx hZ hown (host := "") w_22 Via.refl e0 H9011 (g := (mkF m 4 #[rv th, rv ar, iv (0 : Int32), iv ct] [(.int ct), (.int (0 : Int32)), (.ref ar), (.ref th)])) rfl (hb hby own_r3_d4)
  refine own_go (B := (T1.setTop (mkF m 7 #[rv th, rv ar, iv (0 : Int32), iv ct] [(.ref ac), (.int ct), (.int (0 : Int32)), (.ref ar), (.ref th)]))) st1 ?_
  refine own_go (B := (T1.setTop (mkF m 8 #[rv th, rv ar, iv (0 : Int32), iv ct] [(.int (1 : Int32)), (.ref ac), (.int ct), (.int (0 : Int32)), (.ref ar), (.ref th)]))) (fun t k => own_iconst (v := (1 : Int32)) X1.here hx rfl (hb hby own_r3_d7) (by decide) k) ?_
  refine own_go (B := (T1.setTop (mkF m 9 #[rv th, rv ar, iv (0 : Int32), iv ct] [(.int (0 : Int32)), (.int (1 : Int32)), (.ref ac), (.int ct), (.int (0 : Int32)), (.ref ar), (.ref th)]))) (fun t k => own_iconst (v := (0 : Int32)) X1.here hx rfl (hb hby own_r3_d8) (by decide) k) ?_
  obtain ⟨T2, X2, e2, st2⟩ := getS X1 hx hZ hown (host := "") w_25 Via.refl e1 H9014 (g := (mkF m 9 #[rv th, rv ar, iv (0 : Int32), iv ct] [(.int (0 : Int32)), (.int (1 : Int32)), (.ref ac), (.int ct), (.int (0 : Int32)), (.ref ar), (.ref th)])) rfl (hb hby own_r3_d9)
  refine own_go (B := (T2.setTop (mkF m 12 #[rv th, rv ar, iv (0 : Int32), iv ct] [(.ref ab), (.int (0 : Int32)), (.int (1 : Int32)), (.ref ac), (.int ct), (.int (0 : Int32)), (.ref ar), (.ref th)]))) st2 ?_
  refine own_go (B := (T2.setTop (mkF m 13 #[rv th, rv ar, iv (0 : Int32), iv ct] [(.long (0 : Int64)), (.ref ab), (.int (0 : Int32)), (.int (1 : Int32)), (.ref ac), (.int ct), (.int (0 : Int32)), (.ref ar), (.ref th)]))) (fun t k => XS.lconst X2.here hx rfl (hb hby own_r3_d12) k) ?_
  obtain ⟨_, _, ⟨T3, L3, k3, n3⟩, -, X3, ⟨Lc3, hQ3, l3, yy3, zz3⟩, st3⟩ := Jvm.LawKit.callS X2 hx (y := own_y2) hown (mvT hZ w_28) (mvT hZ w_29) (mvT hZ w_30) (mvT hZ w_31) (by decide) (backOf (W := 10) (own_mo l Z a0 hw [] am h0 n0 Z0 H9015) hZ w_31 w_30 (by decide) (by decide)) (g := (mkF m 13 #[rv th, rv ar, iv (0 : Int32), iv ct] [(.long (0 : Int64)), (.ref ab), (.int (0 : Int32)), (.int (1 : Int32)), (.ref ac), (.int ct), (.int (0 : Int32)), (.ref ar), (.ref th)])) rfl (by rw [hml]; rfl) (argsL := []) (rest := [(.long (0 : Int64)), (.ref ab), (.int (0 : Int32)), (.int (1 : Int32)), (.ref ac), (.int ct), (.int (0 : Int32)), (.ref ar), (.ref th)]) (lenOf own_pd2 rfl) rfl (by show 2 * 0 + _ ≤ _; exact own_b rfl) (hb hby own_r3_d13) (fun _ _ => ⟨rfl, e2, (own_b rfl : 0 + 0 ≤ _), (own_b rfl : 0 + 0 ≤ _)⟩)
  dsimp only [Pt.U, Pt.locs, Pt.cells, Pt.slots] at X3 l3 yy3 zz3 st3 hQ3
  obtain ⟨rfl, Nq3, eq3⟩ := hQ3
  obtain ⟨L3, X3, N3⟩ := own_absC (K := 0) (K' := 0) X3 l3 yy3 zz3 N0 Nq3
  have e3 : T3.heap = h0 := eq3
  refine own_go (B := (T3.setTop (mkF m 16 #[rv th, rv ar, iv (0 : Int32), iv ct] [(.ref am), (.long (0 : Int64)), (.ref ab), (.int (0 : Int32)), (.int (1 : Int32)), (.ref ac), (.int ct), (.int (0 : Int32)), (.ref ar), (.ref th)]))) st3 ?_
  obtain ⟨_, _, ⟨T4, L4, k4, n4⟩, -, X4, hs4, hg4, ⟨Lc4, hQ4, l4, yy4, zz4⟩, st4⟩ := X3.specialBackS hx (y := own_y3) rfl hown (mvT hZ w_34) (mvT hZ w_35) (mvT hZ w_36) (by decide) (backOfS (W := 0) (own_r9 l Z a0 hw [] th ar (0 : Int32) ct ac (1 : Int32) (0 : Int32) ab (0 : Int64) am ae h0 n0 Z0 H9000 H9001 H9002 H9003 H9004 H9005 H9006 H9007 H9008 H9009 H9010 H9011 H9012 H9013 (by decide) (by decide) (by decide) (by decide)) hZ w_36 w_10 (by decide) (by decide)) (g := (mkF m 16 #[rv th, rv ar, iv (0 : Int32), iv ct] [(.ref am), (.long (0 : Int64)), (.ref ab), (.int (0 : Int32)), (.int (1 : Int32)), (.ref ac), (.int ct), (.int (0 : Int32)), (.ref ar), (.ref th)])) rfl (by rw [hml]; rfl) (Steps.refl _) (a := th) (argsL := [(.ref ar), (.int (0 : Int32)), (.int ct), (.ref ac), (.int (1 : Int32)), (.int (0 : Int32)), (.ref ab), (.long (0 : Int64)), (.ref am)]) (rest := []) (lenOf own_pd3 rfl) rfl (by show 2 * 0 + _ ≤ _; exact own_b rfl) (hb hby own_r3_d16) (fun _ _ => ⟨rfl, e3, (own_b rfl : 0 + 2 ≤ _), (own_b rfl : 0 + 36 ≤ _)⟩)
  dsimp only [Pt.U, Pt.locs, Pt.cells, Pt.slots] at X4 l4 yy4 zz4 st4 hQ4 hs4 hg4
  obtain ⟨rfl, Nq4, K4, g0_4, g1_4, g2_4, g3_4, g4_4, g5_4, g6_4, g7_4, g8_4, g9_4⟩ := hQ4
  obtain ⟨L4, X4, N4⟩ := own_absC (K := 2) (K' := 36) X4 l4 yy4 zz4 N3 Nq4
  have X4 : Stand p l e ({ frames := 2, cells := 2, slots := 36, locals := 35 } : Room) (s.setVm T4.vm) m #[(.ref th), (.ref ar), (.int (0 : Int32)), (.int ct)] below meth c T4 L4 2 36 := X4
  have hS4 := foldS hS0 (T := T3) (by rw [e3]; exact hk0) hs4 hg4
  have hZ4 : Z.Warmed39 (s.setVm T4.vm).vm := State.Warmed39.trans (t := s.setVm s.vm) hZ hs4.1
  have ho4 : (s.setVm T4.vm).vm.findClass "com/example/sluicegate/sluicegate/rule/HotParameterRule" = some m.cls := by rw [show (s.setVm T4.vm).vm = T4.vm from rfl, hs4.1.alike.findClass]; exact hown
  have F5 : n0 ≤ T4.heap.size := Nat.le_trans Z0 K4.1
  have F6 := Keep.trans K0 K4 (allS (Or.inl (List.mem_of_getElem? (i := 0) rfl)) all0)
  have F7 := Exa.keep H9000 K4
  have F17 := own_sta_keep H9011 K4 (nsS (Exa.nostat H9000) ns0)
  have F18 := own_sta_keep H9012 K4 (nsS (Exa.nostat H9000) ns0)
  have F19 := own_sta_keep H9014 K4 (nsS (Exa.nostat H9000) ns0)
  have F20 := own_sta_keep H9015 K4 (nsS (Exa.nostat H9000) ns0)
  have hk4 : T4.heap.size ≤ T4.heap.size := Nat.le_refl _
  refine own_tr (B := (T4.setTop (mkF m 19 #[rv th, rv ar, iv (0 : Int32), iv ct] []))) st4 ?_
  exact own_retWV X4 hx hlk hS4 hk4 Bd.returns (hb hby own_r3_d19) (own_b rfl) (own_b rfl) (Q := (own_r3_Q Z th ar ct ac ae ab am h0 n0)) ⟨rfl, N4, F6, g0_4, g1_4, g2_4, g3_4, g4_4, g5_4, g6_4, g7_4, g8_4, g9_4⟩

theorem own_wd_d0 : decode prog_38_method_4_code 0 = .ok (.new 1, 3) := by decide +kernel
theorem own_wd_d3 : decode prog_38_method_4_code 3 = .ok (.dup, 1) := by decide +kernel
theorem own_wd_d4 : decode prog_38_method_4_code 4 = .ok (.aload_n 0, 1) := by decide +kernel
theorem own_wd_d5 : decode prog_38_method_4_code 5 = .ok (.getfield 83, 3) := by decide +kernel
theorem own_wd_d8 : decode prog_38_method_4_code 8 = .ok (.aload_n 0, 1) := by decide +kernel
theorem own_wd_d9 : decode prog_38_method_4_code 9 = .ok (.getfield 86, 3) := by decide +kernel
theorem own_wd_d12 : decode prog_38_method_4_code 12 = .ok (.aload_n 0, 1) := by decide +kernel
theorem own_wd_d13 : decode prog_38_method_4_code 13 = .ok (.getfield 89, 3) := by decide +kernel
theorem own_wd_d16 : decode prog_38_method_4_code 16 = .ok (.aload_n 0, 1) := by decide +kernel
theorem own_wd_d17 : decode prog_38_method_4_code 17 = .ok (.getfield 92, 3) := by decide +kernel
theorem own_wd_d20 : decode prog_38_method_4_code 20 = .ok (.iload_n 1, 1) := by decide +kernel
theorem own_wd_d21 : decode prog_38_method_4_code 21 = .ok (.aload_n 0, 1) := by decide +kernel
theorem own_wd_d22 : decode prog_38_method_4_code 22 = .ok (.getfield 97, 3) := by decide +kernel
theorem own_wd_d25 : decode prog_38_method_4_code 25 = .ok (.aload_n 0, 1) := by decide +kernel
theorem own_wd_d26 : decode prog_38_method_4_code 26 = .ok (.getfield 99, 3) := by decide +kernel
theorem own_wd_d29 : decode prog_38_method_4_code 29 = .ok (.aload_n 0, 1) := by decide +kernel
theorem own_wd_d30 : decode prog_38_method_4_code 30 = .ok (.getfield 101, 3) := by decide +kernel
theorem own_wd_d33 : decode prog_38_method_4_code 33 = .ok (.aload_n 0, 1) := by decide +kernel
theorem own_wd_d34 : decode prog_38_method_4_code 34 = .ok (.getfield 104, 3) := by decide +kernel
theorem own_wd_d37 : decode prog_38_method_4_code 37 = .ok (.invokespecial 23, 3) := by decide +kernel
theorem own_wd_d40 : decode prog_38_method_4_code 40 = .ok (.areturn, 1) := by decide +kernel
theorem own_wd_pn : plainName "com/example/sluicegate/sluicegate/rule/HotParameterRule" = true := by first | (simp [plainName, overriddenIn]; done) | decide +kernel
theorem own_wd_ef (m : MethodId) (th : Addr) (pd : Int32) : entryFrame m #[(.ref th), (.int pd)] 2 = mkF m 0 #[rv th, iv pd] [] := by first | (simp [entryFrame, mkF, argsToLocals, Value.category]; done) | rfl
def own_wd_Q (Z : State) (th : Addr) (pd : Int32) (ar ac ae ab am : Addr) (ct : Int32) (h0 : Heap) (n0 : Nat) (v : Option Value) (h : Heap) (L : List Loc) : Prop := ∃ b, v = some (.ref b) ∧ Fr n0 L ∧ Keep h0 h [] ∧ h0.size ≤ b ∧ Exa Z h b "com/example/sluicegate/sluicegate/rule/HotParameterRule" ∧ Fld Z h b "com/example/sluicegate/sluicegate/rule/HotParameterRule" "resource" "Ljava/lang/String;" (.ref ar) ∧ Fld Z h b "com/example/sluicegate/sluicegate/rule/HotParameterRule" "argumentIndex" "I" (.int (0 : Int32)) ∧ Fld Z h b "com/example/sluicegate/sluicegate/rule/HotParameterRule" "count" "I" (.int ct) ∧ Fld Z h b "com/example/sluicegate/sluicegate/rule/HotParameterRule" "counts" "Lcom/example/sluicegate/sluicegate/rule/HotParameterRule$Counts;" (.ref ac) ∧ Fld Z h b "com/example/sluicegate/sluicegate/rule/HotParameterRule" "durationSeconds" "I" (.int pd) ∧ Fld Z h b "com/example/sluicegate/sluicegate/rule/HotParameterRule" "burst" "I" (.int (0 : Int32)) ∧ Fld Z h b "com/example/sluicegate/sluicegate/rule/HotParameterRule" "behaviour" "Lcom/example/sluicegate/sluicegate/rule/HotParameterRule$Behaviour;" (.ref ab) ∧ Fld Z h b "com/example/sluicegate/sluicegate/rule/HotParameterRule" "maxQueueingMillis" "J" (.long (0 : Int64)) ∧ Fld Z h b "com/example/sluicegate/sluicegate/rule/HotParameterRule" "valueCounts" "Ljava/util/Map;" (.ref am)
set_option maxRecDepth 65536 in
set_option maxHeartbeats 40000000 in
theorem own_wd (l : Launch) (Z : State) (a0 : Array Value) (hw : ∀ d ∈ tables_1, d.before a0 Z = true) (ws : List Jvm.Cond) (th : Addr) (pd : Int32) (ar ac ae ab am : Addr) (ct : Int32) (h0 : Heap) (n0 : Nat) (Z0 : n0 ≤ h0.size) (H9000 : Exa Z h0 th "com/example/sluicegate/sluicegate/rule/HotParameterRule") (H9001 : Fld Z h0 th "com/example/sluicegate/sluicegate/rule/HotParameterRule" "resource" "Ljava/lang/String;" (.ref ar)) (H9002 : Fld Z h0 th "com/example/sluicegate/sluicegate/rule/HotParameterRule" "argumentIndex" "I" (.int (0 : Int32))) (H9003 : Fld Z h0 th "com/example/sluicegate/sluicegate/rule/HotParameterRule" "count" "I" (.int ct)) (H9004 : Fld Z h0 th "com/example/sluicegate/sluicegate/rule/HotParameterRule" "counts" "Lcom/example/sluicegate/sluicegate/rule/HotParameterRule$Counts;" (.ref ac)) (H9005 : Fld Z h0 th "com/example/sluicegate/sluicegate/rule/HotParameterRule" "durationSeconds" "I" (.int (1 : Int32))) (H9006 : Fld Z h0 th "com/example/sluicegate/sluicegate/rule/HotParameterRule" "burst" "I" (.int (0 : Int32))) (H9007 : Fld Z h0 th "com/example/sluicegate/sluicegate/rule/HotParameterRule" "behaviour" "Lcom/example/sluicegate/sluicegate/rule/HotParameterRule$Behaviour;" (.ref ab)) (H9008 : Fld Z h0 th "com/example/sluicegate/sluicegate/rule/HotParameterRule" "maxQueueingMillis" "J" (.long (0 : Int64))) (H9009 : Fld Z h0 th "com/example/sluicegate/sluicegate/rule/HotParameterRule" "valueCounts" "Ljava/util/Map;" (.ref am)) (H9010 : Sta Z h0 "com/example/sluicegate/sluicegate/rule/HotParameterRule$Counts" "PERMITS" "Lcom/example/sluicegate/sluicegate/rule/HotParameterRule$Counts;" (.ref ac)) (H9011 : Sta Z h0 "com/example/sluicegate/sluicegate/rule/HotParameterRule$Counts" "ENTRIES" "Lcom/example/sluicegate/sluicegate/rule/HotParameterRule$Counts;" (.ref ae)) (H9012 : ac ≠ ae) (hpd : ¬ pd < (1 : Int32)) :
    MetFree l own_y29 (head1 (Jvm.Cond.code own_y29 prog_38_method_4_code 2 (some (.object "com/example/sluicegate/sluicegate/rule/HotParameterRule")) :: ws) ({ frames := 2, cells := 3, slots := 45, locals := 36 } : Room)) (fun a U => a = #[(.ref th), (.int pd)] ∧ Z.Warmed39 U.vm ∧ U.heap = h0) (fun _ _ _ _ _ => True) (fun _ U o U' => ∃ v L, o = .returned v ∧ (own_wd_Q Z th pd ar ac ae ab am ct h0 n0) v U'.heap L ∧ ReturnedEndW U o U' L ({ frames := 2, cells := 3, slots := 45, locals := 36 } : Room).cells ({ frames := 2, cells := 3, slots := 45, locals := 36 } : Room).slots) := by
  refine MetFree.of_bodySF (plainFor_of_name own_wd_pn) hisR ?_
  intro p e s m args below meth c s₁ Bd hml0 hP hK
  obtain ⟨rfl, hZ, hh⟩ := hP
  have hx := Bd.exec
  have hby := Bd.bytes
  have hml : c.maxLocals = 2 := hml0
  have hown : s.vm.findClass "com/example/sluicegate/sluicegate/rule/HotParameterRule" = some m.cls := findClass_of_methodNamed Bd.named
  have hnm := (name_of_methodNamed Bd.named Bd.method).1
  have hlk : meth.locks = false := Bd.notSynchronized
  have X0 : Stand p l e ({ frames := 2, cells := 3, slots := 45, locals := 36 } : Room) (s.setVm s.vm) m #[(.ref th), (.int pd)] below meth c s₁ [] 0 0 := Stand.of_body Bd
  have hS0 : s.Since s.vm 0 := own_since0 s 0
  have hk0 : 0 ≤ h0.size := Nat.zero_le _
  have hws := own_hws hw
  have e0 : s₁.heap = h0 := by rw [← hh, Bd.state]; rfl
  have N0 := Fr.nil n0
  have w_9 := hw _ (List.mem_of_getElem? (l := tables_1) (i := 9) rfl)
  have w_10 := hw _ (List.mem_of_getElem? (l := tables_1) (i := 10) rfl)
  have w_34 := hw _ (List.mem_of_getElem? (l := tables_1) (i := 34) rfl)
  have w_35 := hw _ (List.mem_of_getElem? (l := tables_1) (i := 35) rfl)
  have w_36 := hw _ (List.mem_of_getElem? (l := tables_1) (i := 36) rfl)
  have w_47 := hw _ (List.mem_of_getElem? (l := tables_1) (i := 47) rfl)
  have w_48 := hw _ (List.mem_of_getElem? (l := tables_1) (i := 48) rfl)
  have w_49 := hw _ (List.mem_of_getElem? (l := tables_1) (i := 49) rfl)
  have w_50 := hw _ (List.mem_of_getElem? (l := tables_1) (i := 50) rfl)
  have w_51 := hw _ (List.mem_of_getElem? (l := tables_1) (i := 51) rfl)
  have w_52 := hw _ (List.mem_of_getElem? (l := tables_1) (i := 52) rfl)
  have w_53 := hw _ (List.mem_of_getElem? (l := tables_1) (i := 53) rfl)
  have w_54 := hw _ (List.mem_of_getElem? (l := tables_1) (i := 54) rfl)
  have w_56 := hw _ (List.mem_of_getElem? (l := tables_1) (i := 56) rfl)
  have w_57 := hw _ (List.mem_of_getElem? (l := tables_1) (i := 57) rfl)
  have w_58 := hw _ (List.mem_of_getElem? (l := tables_1) (i := 58) rfl)
  have w_59 := hw _ (List.mem_of_getElem? (l := tables_1) (i := 59) rfl)
  have w_60 := hw _ (List.mem_of_getElem? (l := tables_1) (i := 60) rfl)
  have w_61 := hw _ (List.mem_of_getElem? (l := tables_1) (i := 61) rfl)
  have w_62 := hw _ (List.mem_of_getElem? (l := tables_1) (i := 62) rfl)
  have w_63 := hw _ (List.mem_of_getElem? (l := tables_1) (i := 63) rfl)
  have w_64 := hw _ (List.mem_of_getElem? (l := tables_1) (i := 64) rfl)
  have w_70 := hw _ (List.mem_of_getElem? (l := tables_1) (i := 70) rfl)
  show own_G p.tables e below (fun o U' => ∃ v L, o = .returned v ∧ (own_wd_Q Z th pd ar ac ae ab am ct h0 n0) v U'.heap L ∧ ReturnedEndW s o U' L ({ frames := 2, cells := 3, slots := 45, locals := 36 } : Room).cells ({ frames := 2, cells := 3, slots := 45, locals := 36 } : Room).slots) (s₁.setTop (entryFrame m #[(.ref th), (.int pd)] 2))
  refine own_go (B := s₁.setTop (mkF m 0 #[rv th, iv pd] [])) (fun t k => castTop (own_wd_ef m th pd) k) ?_
  have K0 := Keep.refl h0 []
  obtain ⟨T1, h1, X1, e1, E1, A1, D1, U1, st1⟩ := newO X0 hx hZ hown w_70 w_9 w_10 e0 (g := (mkF m 0 #[rv th, iv pd] [])) rfl (hb hby own_wd_d0) (own_b rfl) (own_b rfl)
  obtain ⟨a1, ga1⟩ : ∃ z, z = h0.size := ⟨_, rfl⟩
  rw [← ga1] at A1 D1 U1 st1
  refine own_go (B := (T1.setTop (mkF m 3 #[rv th, iv pd] [(.ref a1)]))) st1 ?_
  have Z2 : 0 ≤ h1.size := Nat.le_trans hk0 E1.1
  have Z3 : n0 ≤ h1.size := Nat.le_trans Z0 E1.1
  have K4 := Keep.ext K0 E1
  have F5 := Exa.ext E1 H9000
  have F6 := Fld.ext E1 H9001
  have F7 := Fld.ext E1 H9002
  have F8 := Fld.ext E1 H9003
  have F9 := Fld.ext E1 H9004
  have F10 := Fld.ext E1 H9005
  have F11 := Fld.ext E1 H9006
  have F12 := Fld.ext E1 H9007
  have F13 := Fld.ext E1 H9008
  have F14 := Fld.ext E1 H9009
  have F15 := Sta.ext E1 H9010
  have F16 := Sta.ext E1 H9011
  have gn1 : n0 ≤ a1 := Nat.le_trans Z0 (Nat.le_of_eq ga1.symm)
  have ne1_th : a1 ≠ th := fun q => absurd (H9000.lt) (by rw [← q, ga1]; exact Nat.lt_irrefl _)
  have F17 : Fld Z h1 a1 "com/example/sluicegate/sluicegate/rule/HotParameterRule" "resource" "Ljava/lang/String;" .null := D1 (Or.inr w_48) (ty := (.object "java/lang/String")) (by decide)
  have F18 : Fld Z h1 a1 "com/example/sluicegate/sluicegate/rule/HotParameterRule" "argumentIndex" "I" (.int (0 : Int32)) := D1 (Or.inr w_50) (ty := .int) (by decide)
  have F19 : Fld Z h1 a1 "com/example/sluicegate/sluicegate/rule/HotParameterRule" "count" "I" (.int (0 : Int32)) := D1 (Or.inr w_52) (ty := .int) (by decide)
  have F20 : Fld Z h1 a1 "com/example/sluicegate/sluicegate/rule/HotParameterRule" "counts" "Lcom/example/sluicegate/sluicegate/rule/HotParameterRule$Counts;" .null := D1 (Or.inr w_54) (ty := (.object "com/example/sluicegate/sluicegate/rule/HotParameterRule$Counts")) (by decide)
  have F21 : Fld Z h1 a1 "com/example/sluicegate/sluicegate/rule/HotParameterRule" "durationSeconds" "I" (.int (0 : Int32)) := D1 (Or.inr w_56) (ty := .int) (by decide)
  have F22 : Fld Z h1 a1 "com/example/sluicegate/sluicegate/rule/HotParameterRule" "burst" "I" (.int (0 : Int32)) := D1 (Or.inr w_58) (ty := .int) (by decide)
  have F23 : Fld Z h1 a1 "com/example/sluicegate/sluicegate/rule/HotParameterRule" "behaviour" "Lcom/example/sluicegate/sluicegate/rule/HotParameterRule$Behaviour;" .null := D1 (Or.inr w_60) (ty := (.object "com/example/sluicegate/sluicegate/rule/HotParameterRule$Behaviour")) (by decide)
  have F24 : Fld Z h1 a1 "com/example/sluicegate/sluicegate/rule/HotParameterRule" "maxQueueingMillis" "J" (.long (0 : Int64)) := D1 (Or.inr w_62) (ty := .long) (by decide)
  have F25 : Fld Z h1 a1 "com/example/sluicegate/sluicegate/rule/HotParameterRule" "valueCounts" "Ljava/util/Map;" .null := D1 (Or.inr w_64) (ty := (.object "java/util/Map")) (by decide)
  refine own_go (B := (T1.setTop (mkF m 4 #[rv th, iv pd] [(.ref a1), (.ref a1)]))) (fun t k => XS.dup X1.here hx rfl (hb hby own_wd_d3) rfl rfl k) ?_
  refine own_go (B := (T1.setTop (mkF m 5 #[rv th, iv pd] [(.ref th), (.ref a1), (.ref a1)]))) (fun t k => XS.aloadN X1.here hx rfl (hb hby own_wd_d4) rfl rfl k) ?_
  obtain ⟨T26, X26, e26, st26⟩ := getF X1 hx hZ hown (host := "") (Or.inl w_47) Via.refl e1 F6 (g := (mkF m 5 #[rv th, iv pd] [(.ref th), (.ref a1), (.ref a1)])) rfl rfl (hb hby own_wd_d5)
  refine own_go (B := (T26.setTop (mkF m 8 #[rv th, iv pd] [(.ref ar), (.ref a1), (.ref a1)]))) st26 ?_
  refine own_go (B := (T26.setTop (mkF m 9 #[rv th, iv pd] [(.ref th), (.ref ar), (.ref a1), (.ref a1)]))) (fun t k => XS.aloadN X26.here hx rfl (hb hby own_wd_d8) rfl rfl k) ?_
  obtain ⟨T27, X27, e27, st27⟩ := getF X26 hx hZ hown (host := "") (Or.inl w_49) Via.refl e26 F7 (g := (mkF m 9 #[rv th, iv pd] [(.ref th), (.ref ar), (.ref a1), (.ref a1)])) rfl rfl (hb hby own_wd_d9)
  refine own_go (B := (T27.setTop (mkF m 12 #[rv th, iv pd] [(.int (0 : Int32)), (.ref ar), (.ref a1), (.ref a1)]))) st27 ?_
  refine own_go (B := (T27.setTop (mkF m 13 #[rv th, iv pd] [(.ref th), (.int (0 : Int32)), (.ref ar), (.ref a1), (.ref a1)]))) (fun t k => XS.aloadN X27.here hx rfl (hb hby own_wd_d12) rfl rfl k) ?_
  obtain ⟨T28, X28, e28, st28⟩ := getF X27 hx hZ hown (host := "") (Or.inl w_51) Via.refl e27 F8 (g := (mkF m 13 #[rv th, iv pd] [(.ref th), (.int (0 : Int32)), (.ref ar), (.ref a1), (.ref a1)])) rfl rfl (hb hby own_wd_d13)
  refine own_go (B := (T28.setTop (mkF m 16 #[rv th, iv pd] [(.int ct), (.int (0 : Int32)), (.ref ar), (.ref a1), (.ref a1)]))) st28 ?_
  refine own_go (B := (T28.setTop (mkF m 17 #[rv th, iv pd] [(.ref th), (.int ct), (.int (0 : Int32)), (.ref ar), (.ref a1), (.ref a1)]))) (fun t k => XS.aloadN X28.here hx rfl (hb hby own_wd_d16) rfl rfl k) ?_
  obtain ⟨T29, X29, e29, st29⟩ := getF X28 hx hZ hown (host := "") (Or.inl w_53) Via.refl e28 F9 (g := (mkF m 17 #[rv th, iv pd] [(.ref th), (.int ct), (.int (0 : Int32)), (.ref ar), (.ref a1), (.ref a1)])) rfl rfl (hb hby own_wd_d17)
  refine own_go (B := (T29.setTop (mkF m 20 #[rv th, iv pd] [(.ref ac), (.int ct), (.int (0 : Int32)), (.ref ar), (.ref a1), (.ref a1)]))) st29 ?_
  refine own_go (B := (T29.setTop (mkF m 21 #[rv th, iv pd] [(.int pd), (.ref ac), (.int ct), (.int (0 : Int32)), (.ref ar), (.ref a1), (.ref a1)]))) (fun t k => XS.iloadN X29.here hx rfl (hb hby own_wd_d20) rfl k) ?_
  refine own_go (B := (T29.setTop (mkF m 22 #[rv th, iv pd] [(.ref th), (.int pd), (.ref ac), (.int ct), (.int (0 : Int32)), (.ref ar), (.ref a1), (.ref a1)]))) (fun t k => XS.aloadN X29.here hx rfl (hb hby own_wd_d21) rfl rfl k) ?_
  obtain ⟨T30, X30, e30, st30⟩ := getF X29 hx hZ hown (host := "") (Or.inl w_57) Via.refl e29 F11 (g := (mkF m 22 #[rv th, iv pd] [(.ref th), (.int pd), (.ref ac), (.int ct), (.int (0 : Int32)), (.ref ar), (.ref a1), (.ref a1)])) rfl rfl (hb hby own_wd_d22)
  refine own_go (B := (T30.setTop (mkF m 25 #[rv th, iv pd] [(.int (0 : Int32)), (.int pd), (.ref ac), (.int ct), (.int (0 : Int32)), (.ref ar), (.ref a1), (.ref a1)]))) st30 ?_
  refine own_go (B := (T30.setTop (mkF m 26 #[rv th, iv pd] [(.ref th), (.int (0 : Int32)), (.int pd), (.ref ac), (.int ct), (.int (0 : Int32)), (.ref ar), (.ref a1), (.ref a1)]))) (fun t k => XS.aloadN X30.here hx rfl (hb hby own_wd_d25) rfl rfl k) ?_
  obtain ⟨T31, X31, e31, st31⟩ := getF X30 hx hZ hown (host := "") (Or.inl w_59) Via.refl e30 F12 (g := (mkF m 26 #[rv th, iv pd] [(.ref th), (.int (0 : Int32)), (.int pd), (.ref ac), (.int ct), (.int (0 : Int32)), (.ref ar), (.ref a1), (.ref a1)])) rfl rfl (hb hby own_wd_d26)
  refine own_go (B := (T31.setTop (mkF m 29 #[rv th, iv pd] [(.ref ab), (.int (0 : Int32)), (.int pd), (.ref ac), (.int ct), (.int (0 : Int32)), (.ref ar), (.ref a1), (.ref a1)]))) st31 ?_
  refine own_go (B := (T31.setTop (mkF m 30 #[rv th, iv pd] [(.ref th), (.ref ab), (.int (0 : Int32)), (.int pd), (.ref ac), (.int ct), (.int (0 : Int32)), (.ref ar), (.ref a1), (.ref a1)]))) (fun t k => XS.aloadN X31.here hx rfl (hb hby own_wd_d29) rfl rfl k) ?_
  obtain ⟨T32, X32, e32, st32⟩ := getF X31 hx hZ hown (host := "") (Or.inl w_61) Via.refl e31 F13 (g := (mkF m 30 #[rv th, iv pd] [(.ref th), (.ref ab), (.int (0 : Int32)), (.int pd), (.ref ac), (.int ct), (.int (0 : Int32)), (.ref ar), (.ref a1), (.ref a1)])) rfl rfl (hb hby own_wd_d30)
  refine own_go (B := (T32.setTop (mkF m 33 #[rv th, iv pd] [(.long (0 : Int64)), (.ref ab), (.int (0 : Int32)), (.int pd), (.ref ac), (.int ct), (.int (0 : Int32)), (.ref ar), (.ref a1), (.ref a1)]))) st32 ?_
  refine own_go (B := (T32.setTop (mkF m 34 #[rv th, iv pd] [(.ref th), (.long (0 : Int64)), (.ref ab), (.int (0 : Int32)), (.int pd), (.ref ac), (.int ct), (.int (0 : Int32)), (.ref ar), (.ref a1), (.ref a1)]))) (fun t k => XS.aloadN X32.here hx rfl (hb hby own_wd_d33) rfl rfl k) ?_
  obtain ⟨T33, X33, e33, st33⟩ := getF X32 hx hZ hown (host := "") (Or.inl w_63) Via.refl e32 F14 (g := (mkF m 34 #[rv th, iv pd] [(.ref th), (.long (0 : Int64)), (.ref ab), (.int (0 : Int32)), (.int pd), (.ref ac), (.int ct), (.int (0 : Int32)), (.ref ar), (.ref a1), (.ref a1)])) rfl rfl (hb hby own_wd_d34)
  refine own_go (B := (T33.setTop (mkF m 37 #[rv th, iv pd] [(.ref am), (.long (0 : Int64)), (.ref ab), (.int (0 : Int32)), (.int pd), (.ref ac), (.int ct), (.int (0 : Int32)), (.ref ar), (.ref a1), (.ref a1)]))) st33 ?_
  obtain ⟨_, _, ⟨T34, L34, k34, n34⟩, -, X34, hs34, hg34, ⟨Lc34, hQ34, l34, yy34, zz34⟩, st34⟩ := X33.specialBackS hx (y := own_y3) rfl hown (mvT hZ w_34) (mvT hZ w_35) (mvT hZ w_36) (by decide) (backOfS (W := 1) (own_r9 l Z a0 hw [] a1 ar (0 : Int32) ct ac pd (0 : Int32) ab (0 : Int64) am ae h1 n0 Z3 A1 gn1 F17 F18 F19 F20 F21 F22 F23 F24 F25 F15 F16 H9012 (by decide) hpd (by decide) (by decide)) hZ w_36 w_10 (by decide) (by decide)) (g := (mkF m 37 #[rv th, iv pd] [(.ref am), (.long (0 : Int64)), (.ref ab), (.int (0 : Int32)), (.int pd), (.ref ac), (.int ct), (.int (0 : Int32)), (.ref ar), (.ref a1), (.ref a1)])) rfl (by rw [hml]; rfl) (Steps.refl _) (a := a1) (argsL := [(.ref ar), (.int (0 : Int32)), (.int ct), (.ref ac), (.int pd), (.int (0 : Int32)), (.ref ab), (.long (0 : Int64)), (.ref am)]) (rest := [(.ref a1)]) (lenOf own_pd3 rfl) rfl (by show 2 * 0 + _ ≤ _; exact own_b rfl) (hb hby own_wd_d37) (fun _ _ => ⟨rfl, e33, (own_b rfl : 1 + 2 ≤ _), (own_b rfl : 9 + 36 ≤ _)⟩)
  dsimp only [Pt.U, Pt.locs, Pt.cells, Pt.slots] at X34 l34 yy34 zz34 st34 hQ34 hs34 hg34
  obtain ⟨rfl, Nq34, K34, g0_34, g1_34, g2_34, g3_34, g4_34, g5_34, g6_34, g7_34, g8_34, g9_34⟩ := hQ34
  obtain ⟨L34, X34, N34⟩ := own_absC (K := 3) (K' := 45) X34 l34 yy34 zz34 N0 Nq34
  have X34 : Stand p l e ({ frames := 2, cells := 3, slots := 45, locals := 36 } : Room) (s.setVm T34.vm) m #[(.ref th), (.int pd)] below meth c T34 L34 3 45 := X34
  have hS34 := foldS hS0 (T := T33) (by rw [e33]; exact Z2) hs34 hg34
  have hZ34 : Z.Warmed39 (s.setVm T34.vm).vm := State.Warmed39.trans (t := s.setVm s.vm) hZ hs34.1
  have ho34 : (s.setVm T34.vm).vm.findClass "com/example/sluicegate/sluicegate/rule/HotParameterRule" = some m.cls := by rw [show (s.setVm T34.vm).vm = T34.vm from rfl, hs34.1.alike.findClass]; exact hown
  have F35 : n0 ≤ T34.heap.size := Nat.le_trans Z3 K34.1
  have F36 := Keep.trans K4 K34 (allS (Or.inr (Nat.le_trans K0.1 (Nat.le_of_eq ga1.symm))) all0)
  have F37 := Exa.keep F5 K34
  have F38 := Fld.keep F6 K34 (ninS (Ne.symm ne1_th) nin0)
  have F39 := Fld.keep F7 K34 (ninS (Ne.symm ne1_th) nin0)
  have F40 := Fld.keep F8 K34 (ninS (Ne.symm ne1_th) nin0)
  have F41 := Fld.keep F9 K34 (ninS (Ne.symm ne1_th) nin0)
  have F42 := Fld.keep F10 K34 (ninS (Ne.symm ne1_th) nin0)
  have F43 := Fld.keep F11 K34 (ninS (Ne.symm ne1_th) nin0)
  have F44 := Fld.keep F12 K34 (ninS (Ne.symm ne1_th) nin0)
  have F45 := Fld.keep F13 K34 (ninS (Ne.symm ne1_th) nin0)
  have F46 := Fld.keep F14 K34 (ninS (Ne.symm ne1_th) nin0)
  have F47 := own_sta_keep F15 K34 (nsS (Exa.nostat A1) ns0)
  have F48 := own_sta_keep F16 K34 (nsS (Exa.nostat A1) ns0)
  have F49 := Exa.keep A1 K34
  have hk34 : T34.heap.size ≤ T34.heap.size := Nat.le_refl _
  refine own_tr (B := (T34.setTop (mkF m 40 #[rv th, iv pd] [(.ref a1)]))) st34 ?_
  exact own_retWA X34 hx hlk hS34 hk34 Bd.returns rfl rfl (hb hby own_wd_d40) (own_b rfl) (own_b rfl) (Q := (own_wd_Q Z th pd ar ac ae ab am ct h0 n0)) ⟨_, rfl, N34, F36, Nat.le_trans K0.1 (Nat.le_of_eq ga1.symm), g0_34, g1_34, g2_34, g3_34, g4_34, g5_34, g6_34, g7_34, g8_34, g9_34⟩

theorem own_wu_d0 : decode prog_38_method_8_code 0 = .ok (.new 1, 3) := by decide +kernel
theorem own_wu_d3 : decode prog_38_method_8_code 3 = .ok (.dup, 1) := by decide +kernel
theorem own_wu_d4 : decode prog_38_method_8_code 4 = .ok (.aload_n 0, 1) := by decide +kernel
theorem own_wu_d5 : decode prog_38_method_8_code 5 = .ok (.getfield 83, 3) := by decide +kernel
theorem own_wu_d8 : decode prog_38_method_8_code 8 = .ok (.aload_n 0, 1) := by decide +kernel
theorem own_wu_d9 : decode prog_38_method_8_code 9 = .ok (.getfield 86, 3) := by decide +kernel
theorem own_wu_d12 : decode prog_38_method_8_code 12 = .ok (.aload_n 0, 1) := by decide +kernel
theorem own_wu_d13 : decode prog_38_method_8_code 13 = .ok (.getfield 89, 3) := by decide +kernel
theorem own_wu_d16 : decode prog_38_method_8_code 16 = .ok (.aload_n 0, 1) := by decide +kernel
theorem own_wu_d17 : decode prog_38_method_8_code 17 = .ok (.getfield 92, 3) := by decide +kernel
theorem own_wu_d20 : decode prog_38_method_8_code 20 = .ok (.aload_n 0, 1) := by decide +kernel
theorem own_wu_d21 : decode prog_38_method_8_code 21 = .ok (.getfield 95, 3) := by decide +kernel
theorem own_wu_d24 : decode prog_38_method_8_code 24 = .ok (.aload_n 0, 1) := by decide +kernel
theorem own_wu_d25 : decode prog_38_method_8_code 25 = .ok (.getfield 97, 3) := by decide +kernel
theorem own_wu_d28 : decode prog_38_method_8_code 28 = .ok (.getstatic 54, 3) := by decide +kernel
theorem own_wu_d31 : decode prog_38_method_8_code 31 = .ok (.lload_n 1, 1) := by decide +kernel
theorem own_wu_d32 : decode prog_38_method_8_code 32 = .ok (.aload_n 0, 1) := by decide +kernel
theorem own_wu_d33 : decode prog_38_method_8_code 33 = .ok (.getfield 104, 3) := by decide +kernel
theorem own_wu_d36 : decode prog_38_method_8_code 36 = .ok (.invokespecial 23, 3) := by decide +kernel
theorem own_wu_d39 : decode prog_38_method_8_code 39 = .ok (.areturn, 1) := by decide +kernel
theorem own_wu_pn : plainName "com/example/sluicegate/sluicegate/rule/HotParameterRule" = true := by first | (simp [plainName, overriddenIn]; done) | decide +kernel
theorem own_wu_ef (m : MethodId) (th : Addr) (pq : Int64) : entryFrame m #[(.ref th), (.long pq)] 3 = mkF m 0 #[rv th, .val (.long pq), .second] [] := by first | (simp [entryFrame, mkF, argsToLocals, Value.category]; done) | rfl
def own_wu_Q (Z : State) (th : Addr) (pq : Int64) (ar ac ae ab am ap : Addr) (ct pd : Int32) (h0 : Heap) (n0 : Nat) (v : Option Value) (h : Heap) (L : List Loc) : Prop := ∃ b, v = some (.ref b) ∧ Fr n0 L ∧ Keep h0 h [] ∧ h0.size ≤ b ∧ Exa Z h b "com/example/sluicegate/sluicegate/rule/HotParameterRule" ∧ Fld Z h b "com/example/sluicegate/sluicegate/rule/HotParameterRule" "resource" "Ljava/lang/String;" (.ref ar) ∧ Fld Z h b "com/example/sluicegate/sluicegate/rule/HotParameterRule" "argumentIndex" "I" (.int (0 : Int32)) ∧ Fld Z h b "com/example/sluicegate/sluicegate/rule/HotParameterRule" "count" "I" (.int ct) ∧ Fld Z h b "com/example/sluicegate/sluicegate/rule/HotParameterRule" "counts" "Lcom/example/sluicegate/sluicegate/rule/HotParameterRule$Counts;" (.ref ac) ∧ Fld Z h b "com/example/sluicegate/sluicegate/rule/HotParameterRule" "durationSeconds" "I" (.int pd) ∧ Fld Z h b "com/example/sluicegate/sluicegate/rule/HotParameterRule" "burst" "I" (.int (0 : Int32)) ∧ Fld Z h b "com/example/sluicegate/sluicegate/rule/HotParameterRule" "behaviour" "Lcom/example/sluicegate/sluicegate/rule/HotParameterRule$Behaviour;" (.ref ap) ∧ Fld Z h b "com/example/sluicegate/sluicegate/rule/HotParameterRule" "maxQueueingMillis" "J" (.long pq) ∧ Fld Z h b "com/example/sluicegate/sluicegate/rule/HotParameterRule" "valueCounts" "Ljava/util/Map;" (.ref am)
set_option maxRecDepth 65536 in
set_option maxHeartbeats 40000000 in
theorem own_wu (l : Launch) (Z : State) (a0 : Array Value) (hw : ∀ d ∈ tables_1, d.before a0 Z = true) (ws : List Jvm.Cond) (th : Addr) (pq : Int64) (ar ac ae ab am ap : Addr) (ct pd : Int32) (h0 : Heap) (n0 : Nat) (Z0 : n0 ≤ h0.size) (H9000 : Exa Z h0 th "com/example/sluicegate/sluicegate/rule/HotParameterRule") (H9001 : Fld Z h0 th "com/example/sluicegate/sluicegate/rule/HotParameterRule" "resource" "Ljava/lang/String;" (.ref ar)) (H9002 : Fld Z h0 th "com/example/sluicegate/sluicegate/rule/HotParameterRule" "argumentIndex" "I" (.int (0 : Int32))) (H9003 : Fld Z h0 th "com/example/sluicegate/sluicegate/rule/HotParameterRule" "count" "I" (.int ct)) (H9004 : Fld Z h0 th "com/example/sluicegate/sluicegate/rule/HotParameterRule" "counts" "Lcom/example/sluicegate/sluicegate/rule/HotParameterRule$Counts;" (.ref ac)) (H9005 : Fld Z h0 th "com/example/sluicegate/sluicegate/rule/HotParameterRule" "durationSeconds" "I" (.int pd)) (H9006 : Fld Z h0 th "com/example/sluicegate/sluicegate/rule/HotParameterRule" "burst" "I" (.int (0 : Int32))) (H9007 : Fld Z h0 th "com/example/sluicegate/sluicegate/rule/HotParameterRule" "behaviour" "Lcom/example/sluicegate/sluicegate/rule/HotParameterRule$Behaviour;" (.ref ab)) (H9008 : Fld Z h0 th "com/example/sluicegate/sluicegate/rule/HotParameterRule" "maxQueueingMillis" "J" (.long (0 : Int64))) (H9009 : Fld Z h0 th "com/example/sluicegate/sluicegate/rule/HotParameterRule" "valueCounts" "Ljava/util/Map;" (.ref am)) (H9010 : Sta Z h0 "com/example/sluicegate/sluicegate/rule/HotParameterRule$Counts" "PERMITS" "Lcom/example/sluicegate/sluicegate/rule/HotParameterRule$Counts;" (.ref ac)) (H9011 : Sta Z h0 "com/example/sluicegate/sluicegate/rule/HotParameterRule$Counts" "ENTRIES" "Lcom/example/sluicegate/sluicegate/rule/HotParameterRule$Counts;" (.ref ae)) (H9012 : ac ≠ ae) (H9013 : Sta Z h0 "com/example/sluicegate/sluicegate/rule/HotParameterRule$Behaviour" "UNIFORM_QUEUEING" "Lcom/example/sluicegate/sluicegate/rule/HotParameterRule$Behaviour;" (.ref ap)) (hpd : ¬ pd < (1 : Int32)) (hpq : ¬ pq < (0 : Int64)) :
    MetFree l own_y30 (head1 (Jvm.Cond.code own_y30 prog_38_method_8_code 3 (some (.object "com/example/sluicegate/sluicegate/rule/HotParameterRule")) :: ws) ({ frames := 2, cells := 3, slots := 45, locals := 36 } : Room)) (fun a U => a = #[(.ref th), (.long pq)] ∧ Z.Warmed39 U.vm ∧ U.heap = h0) (fun _ _ _ _ _ => True) (fun _ U o U' => ∃ v L, o = .returned v ∧ (own_wu_Q Z th pq ar ac ae ab am ap ct pd h0 n0) v U'.heap L ∧ ReturnedEndW U o U' L ({ frames := 2, cells := 3, slots := 45, locals := 36 } : Room).cells ({ frames := 2, cells := 3, slots := 45, locals := 36 } : Room).slots) := by
  refine MetFree.of_bodySF (plainFor_of_name own_wu_pn) hisR ?_
  intro p e s m args below meth c s₁ Bd hml0 hP hK
  obtain ⟨rfl, hZ, hh⟩ := hP
  have hx := Bd.exec
  have hby := Bd.bytes
  have hml : c.maxLocals = 3 := hml0
  have hown : s.vm.findClass "com/example/sluicegate/sluicegate/rule/HotParameterRule" = some m.cls := findClass_of_methodNamed Bd.named
  have hnm := (name_of_methodNamed Bd.named Bd.method).1
  have hlk : meth.locks = false := Bd.notSynchronized
  have X0 : Stand p l e ({ frames := 2, cells := 3, slots := 45, locals := 36 } : Room) (s.setVm s.vm) m #[(.ref th), (.long pq)] below meth c s₁ [] 0 0 := Stand.of_body Bd
  have hS0 : s.Since s.vm 0 := own_since0 s 0
  have hk0 : 0 ≤ h0.size := Nat.zero_le _
  have hws := own_hws hw
  have e0 : s₁.heap = h0 := by rw [← hh, Bd.state]; rfl
  have N0 := Fr.nil n0
  have w_9 := hw _ (List.mem_of_getElem? (l := tables_1) (i := 9) rfl)
  have w_10 := hw _ (List.mem_of_getElem? (l := tables_1) (i := 10) rfl)
  have w_34 := hw _ (List.mem_of_getElem? (l := tables_1) (i := 34) rfl)
  have w_35 := hw _ (List.mem_of_getElem? (l := tables_1) (i := 35) rfl)
  have w_36 := hw _ (List.mem_of_getElem? (l := tables_1) (i := 36) rfl)
  have w_47 := hw _ (List.mem_of_getElem? (l := tables_1) (i := 47) rfl)
  have w_48 := hw _ (List.mem_of_getElem? (l := tables_1) (i := 48) rfl)
  have w_49 := hw _ (List.mem_of_getElem? (l := tables_1) (i := 49) rfl)
  have w_50 := hw _ (List.mem_of_getElem? (l := tables_1) (i := 50) rfl)
  have w_51 := hw _ (List.mem_of_getElem? (l := tables_1) (i := 51) rfl)
  have w_52 := hw _ (List.mem_of_getElem? (l := tables_1) (i := 52) rfl)
  have w_53 := hw _ (List.mem_of_getElem? (l := tables_1) (i := 53) rfl)
  have w_54 := hw _ (List.mem_of_getElem? (l := tables_1) (i := 54) rfl)
  have w_55 := hw _ (List.mem_of_getElem? (l := tables_1) (i := 55) rfl)
  have w_56 := hw _ (List.mem_of_getElem? (l := tables_1) (i := 56) rfl)
  have w_57 := hw _ (List.mem_of_getElem? (l := tables_1) (i := 57) rfl)
  have w_58 := hw _ (List.mem_of_getElem? (l := tables_1) (i := 58) rfl)
  have w_60 := hw _ (List.mem_of_getElem? (l := tables_1) (i := 60) rfl)
  have w_62 := hw _ (List.mem_of_getElem? (l := tables_1) (i := 62) rfl)
  have w_63 := hw _ (List.mem_of_getElem? (l := tables_1) (i := 63) rfl)
  have w_64 := hw _ (List.mem_of_getElem? (l := tables_1) (i := 64) rfl)
  have w_70 := hw _ (List.mem_of_getElem? (l := tables_1) (i := 70) rfl)
  have w_76 := hw _ (List.mem_of_getElem? (l := tables_1) (i := 76) rfl)
  show own_G p.tables e below (fun o U' => ∃ v L, o = .returned v ∧ (own_wu_Q Z th pq ar ac ae ab am ap ct pd h0 n0) v U'.heap L ∧ ReturnedEndW s o U' L ({ frames := 2, cells := 3, slots := 45, locals := 36 } : Room).cells ({ frames := 2, cells := 3, slots := 45, locals := 36 } : Room).slots) (s₁.setTop (entryFrame m #[(.ref th), (.long pq)] 3))
  refine own_go (B := s₁.setTop (mkF m 0 #[rv th, .val (.long pq), .second] [])) (fun t k => castTop (own_wu_ef m th pq) k) ?_
  have K0 := Keep.refl h0 []
  obtain ⟨T1, h1, X1, e1, E1, A1, D1, U1, st1⟩ := newO X0 hx hZ hown w_70 w_9 w_10 e0 (g := (mkF m 0 #[rv th, .val (.long pq), .second] [])) rfl (hb hby own_wu_d0) (own_b rfl) (own_b rfl)
  obtain ⟨a1, ga1⟩ : ∃ z, z = h0.size := ⟨_, rfl⟩
  rw [← ga1] at A1 D1 U1 st1
  refine own_go (B := (T1.setTop (mkF m 3 #[rv th, .val (.long pq), .second] [(.ref a1)]))) st1 ?_
  have Z2 : 0 ≤ h1.size := Nat.le_trans hk0 E1.1
  have Z3 : n0 ≤ h1.size := Nat.le_trans Z0 E1.1
  have K4 := Keep.ext K0 E1
  have F5 := Exa.ext E1 H9000
  have F6 := Fld.ext E1 H9001
  have F7 := Fld.ext E1 H9002
  have F8 := Fld.ext E1 H9003
  have F9 := Fld.ext E1 H9004
  have F10 := Fld.ext E1 H9005
  have F11 := Fld.ext E1 H9006
  have F12 := Fld.ext E1 H9007
  have F13 := Fld.ext E1 H9008
  have F14 := Fld.ext E1 H9009
  have F15 := Sta.ext E1 H9010
  have F16 := Sta.ext E1 H9011
  have F17 := Sta.ext E1 H9013
  have gn1 : n0 ≤ a1 := Nat.le_trans Z0 (Nat.le_of_eq ga1.symm)
  have ne1_th : a1 ≠ th := fun q => absurd (H9000.lt) (by rw [← q, ga1]; exact Nat.lt_irrefl _)
  have F18 : Fld Z h1 a1 "com/example/sluicegate/sluicegate/rule/HotParameterRule" "resource" "Ljava/lang/String;" .null := D1 (Or.inr w_48) (ty := (.object "java/lang/String")) (by decide)
  have F19 : Fld Z h1 a1 "com/example/sluicegate/sluicegate/rule/HotParameterRule" "argumentIndex" "I" (.int (0 : Int32)) := D1 (Or.inr w_50) (ty := .int) (by decide)
  have F20 : Fld Z h1 a1 "com/example/sluicegate/sluicegate/rule/HotParameterRule" "count" "I" (.int (0 : Int32)) := D1 (Or.inr w_52) (ty := .int) (by decide)
  have F21 : Fld Z h1 a1 "com/example/sluicegate/sluicegate/rule/HotParameterRule" "counts" "Lcom/example/sluicegate/sluicegate/rule/HotParameterRule$Counts;" .null := D1 (Or.inr w_54) (ty := (.object "com/example/sluicegate/sluicegate/rule/HotParameterRule$Counts")) (by decide)
  have F22 : Fld Z h1 a1 "com/example/sluicegate/sluicegate/rule/HotParameterRule" "durationSeconds" "I" (.int (0 : Int32)) := D1 (Or.inr w_56) (ty := .int) (by decide)
  have F23 : Fld Z h1 a1 "com/example/sluicegate/sluicegate/rule/HotParameterRule" "burst" "I" (.int (0 : Int32)) := D1 (Or.inr w_58) (ty := .int) (by decide)
  have F24 : Fld Z h1 a1 "com/example/sluicegate/sluicegate/rule/HotParameterRule" "behaviour" "Lcom/example/sluicegate/sluicegate/rule/HotParameterRule$Behaviour;" .null := D1 (Or.inr w_60) (ty := (.object "com/example/sluicegate/sluicegate/rule/HotParameterRule$Behaviour")) (by decide)
  have F25 : Fld Z h1 a1 "com/example/sluicegate/sluicegate/rule/HotParameterRule" "maxQueueingMillis" "J" (.long (0 : Int64)) := D1 (Or.inr w_62) (ty := .long) (by decide)
  have F26 : Fld Z h1 a1 "com/example/sluicegate/sluicegate/rule/HotParameterRule" "valueCounts" "Ljava/util/Map;" .null := D1 (Or.inr w_64) (ty := (.object "java/util/Map")) (by decide)
  refine own_go (B := (T1.setTop (mkF m 4 #[rv th, .val (.long pq), .second] [(.ref a1), (.ref a1)]))) (fun t k => XS.dup X1.here hx rfl (hb hby own_wu_d3) rfl rfl k) ?_
  refine own_go (B := (T1.setTop (mkF m 5 #[rv th, .val (.long pq), .second] [(.ref th), (.ref a1), (.ref a1)]))) (fun t k => XS.aloadN X1.here hx rfl (hb hby own_wu_d4) rfl rfl k) ?_
  obtain ⟨T27, X27, e27, st27⟩ := getF X1 hx hZ hown (host := "") (Or.inl w_47) Via.refl e1 F6 (g := (mkF m 5 #[rv th, .val (.long pq), .second] [(.ref th), (.ref a1), (.ref a1)])) rfl rfl (hb hby own_wu_d5)
  refine own_go (B := (T27.setTop (mkF m 8 #[rv th, .val (.long pq), .second] [(.ref ar), (.ref a1), (.ref a1)]))) st27 ?_
  refine own_go (B := (T27.setTop (mkF m 9 #[rv th, .val (.long pq), .second] [(.ref th), (.ref ar), (.ref a1), (.ref a1)]))) (fun t k => XS.aloadN X27.here hx rfl (hb hby own_wu_d8) rfl rfl k) ?_
  obtain ⟨T28, X28, e28, st28⟩ := getF X27 hx hZ hown (host := "") (Or.inl w_49) Via.refl e27 F7 (g := (mkF m 9 #[rv th, .val (.long pq), .second] [(.ref th), (.ref ar), (.ref a1), (.ref a1)])) rfl rfl (hb hby own_wu_d9)
  refine own_go (B := (T28.setTop (mkF m 12 #[rv th, .val (.long pq), .second] [(.int (0 : Int32)), (.ref ar), (.ref a1), (.ref a1)]))) st28 ?_
  refine own_go (B := (T28.setTop (mkF m 13 #[rv th, .val (.long pq), .second] [(.ref th), (.int (0 : Int32)), (.ref ar), (.ref a1), (.ref a1)]))) (fun t k => XS.aloadN X28.here hx rfl (hb hby own_wu_d12) rfl rfl k) ?_
  obtain ⟨T29, X29, e29, st29⟩ := getF X28 hx hZ hown (host := "") (Or.inl w_51) Via.refl e28 F8 (g := (mkF m 13 #[rv th, .val (.long pq), .second] [(.ref th), (.int (0 : Int32)), (.ref ar), (.ref a1), (.ref a1)])) rfl rfl (hb hby own_wu_d13)
  refine own_go (B := (T29.setTop (mkF m 16 #[rv th, .val (.long pq), .second] [(.int ct), (.int (0 : Int32)), (.ref ar), (.ref a1), (.ref a1)]))) st29 ?_
  refine own_go (B := (T29.setTop (mkF m 17 #[rv th, .val (.long pq), .second] [(.ref th), (.int ct), (.int (0 : Int32)), (.ref ar), (.ref a1), (.ref a1)]))) (fun t k => XS.aloadN X29.here hx rfl (hb hby own_wu_d16) rfl rfl k) ?_
  obtain ⟨T30, X30, e30, st30⟩ := getF X29 hx hZ hown (host := "") (Or.inl w_53) Via.refl e29 F9 (g := (mkF m 17 #[rv th, .val (.long pq), .second] [(.ref th), (.int ct), (.int (0 : Int32)), (.ref ar), (.ref a1), (.ref a1)])) rfl rfl (hb hby own_wu_d17)
  refine own_go (B := (T30.setTop (mkF m 20 #[rv th, .val (.long pq), .second] [(.ref ac), (.int ct), (.int (0 : Int32)), (.ref ar), (.ref a1), (.ref a1)]))) st30 ?_
  refine own_go (B := (T30.setTop (mkF m 21 #[rv th, .val (.long pq), .second] [(.ref th), (.ref ac), (.int ct), (.int (0 : Int32)), (.ref ar), (.ref a1), (.ref a1)]))) (fun t k => XS.aloadN X30.here hx rfl (hb hby own_wu_d20) rfl rfl k) ?_
  obtain ⟨T31, X31, e31, st31⟩ := getF X30 hx hZ hown (host := "") (Or.inl w_55) Via.refl e30 F10 (g := (mkF m 21 #[rv th, .val (.long pq), .second] [(.ref th), (.ref ac), (.int ct), (.int (0 : Int32)), (.ref ar), (.ref a1), (.ref a1)])) rfl rfl (hb hby own_wu_d21)
  refine own_go (B := (T31.setTop (mkF m 24 #[rv th, .val (.long pq), .second] [(.int pd), (.ref ac), (.int ct), (.int (0 : Int32)), (.ref ar), (.ref a1), (.ref a1)]))) st31 ?_
  refine own_go (B := (T31.setTop (mkF m 25 #[rv th, .val (.long pq), .second] [(.ref th), (.int pd), (.ref ac), (.int ct), (.int (0 : Int32)), (.ref ar), (.ref a1), (.ref a1)]))) (fun t k => XS.aloadN X31.here hx rfl (hb hby own_wu_d24) rfl rfl k) ?_
  obtain ⟨T32, X32, e32, st32⟩ := getF X31 hx hZ hown (host := "") (Or.inl w_57) Via.refl e31 F11 (g := (mkF m 25 #[rv th, .val (.long pq), .second] [(.ref th), (.int pd), (.ref ac), (.int ct), (.int (0 : Int32)), (.ref ar), (.ref a1), (.ref a1)])) rfl rfl (hb hby own_wu_d25)
  refine own_go (B := (T32.setTop (mkF m 28 #[rv th, .val (.long pq), .second] [(.int (0 : Int32)), (.int pd), (.ref ac), (.int ct), (.int (0 : Int32)), (.ref ar), (.ref a1), (.ref a1)]))) st32 ?_
  obtain ⟨T33, X33, e33, st33⟩ := getS X32 hx hZ hown (host := "") w_76 Via.refl e32 F17 (g := (mkF m 28 #[rv th, .val (.long pq), .second] [(.int (0 : Int32)), (.int pd), (.ref ac), (.int ct), (.int (0 : Int32)), (.ref ar), (.ref a1), (.ref a1)])) rfl (hb hby own_wu_d28)
  refine own_go (B := (T33.setTop (mkF m 31 #[rv th, .val (.long pq), .second] [(.ref ap), (.int (0 : Int32)), (.int pd), (.ref ac), (.int ct), (.int (0 : Int32)), (.ref ar), (.ref a1), (.ref a1)]))) st33 ?_
  refine own_go (B := (T33.setTop (mkF m 32 #[rv th, .val (.long pq), .second] [(.long pq), (.ref ap), (.int (0 : Int32)), (.int pd), (.ref ac), (.int ct), (.int (0 : Int32)), (.ref ar), (.ref a1), (.ref a1)]))) (fun t k => XS.lloadN X33.here hx rfl (hb hby own_wu_d31) rfl k) ?_
  refine own_go (B := (T33.setTop (mkF m 33 #[rv th, .val (.long pq), .second] [(.ref th), (.long pq), (.ref ap), (.int (0 : Int32)), (.int pd), (.ref ac), (.int ct), (.int (0 : Int32)), (.ref ar), (.ref a1), (.ref a1)]))) (fun t k => XS.aloadN X33.here hx rfl (hb hby own_wu_d32) rfl rfl k) ?_
  obtain ⟨T34, X34, e34, st34⟩ := getF X33 hx hZ hown (host := "") (Or.inl w_63) Via.refl e33 F14 (g := (mkF m 33 #[rv th, .val (.long pq), .second] [(.ref th), (.long pq), (.ref ap), (.int (0 : Int32)), (.int pd), (.ref ac), (.int ct), (.int (0 : Int32)), (.ref ar), (.ref a1), (.ref a1)])) rfl rfl (hb hby own_wu_d33)
  refine own_go (B := (T34.setTop (mkF m 36 #[rv th, .val (.long pq), .second] [(.ref am), (.long pq), (.ref ap), (.int (0 : Int32)), (.int pd), (.ref ac), (.int ct), (.int (0 : Int32)), (.ref ar), (.ref a1), (.ref a1)]))) st34 ?_
  obtain ⟨_, _, ⟨T35, L35, k35, n35⟩, -, X35, hs35, hg35, ⟨Lc35, hQ35, l35, yy35, zz35⟩, st35⟩ := X34.specialBackS hx (y := own_y3) rfl hown (mvT hZ w_34) (mvT hZ w_35) (mvT hZ w_36) (by decide) (backOfS (W := 1) (own_r9 l Z a0 hw [] a1 ar (0 : Int32) ct ac pd (0 : Int32) ap pq am ae h1 n0 Z3 A1 gn1 F18 F19 F20 F21 F22 F23 F24 F25 F26 F15 F16 H9012 (by decide) hpd (by decide) hpq) hZ w_36 w_10 (by decide) (by decide)) (g := (mkF m 36 #[rv th, .val (.long pq), .second] [(.ref am), (.long pq), (.ref ap), (.int (0 : Int32)), (.int pd), (.ref ac), (.int ct), (.int (0 : Int32)), (.ref ar), (.ref a1), (.ref a1)])) rfl (by rw [hml]; rfl) (Steps.refl _) (a := a1) (argsL := [(.ref ar), (.int (0 : Int32)), (.int ct), (.ref ac), (.int pd), (.int (0 : Int32)), (.ref ap), (.long pq), (.ref am)]) (rest := [(.ref a1)]) (lenOf own_pd3 rfl) rfl (by show 2 * 0 + _ ≤ _; exact own_b rfl) (hb hby own_wu_d36) (fun _ _ => ⟨rfl, e34, (own_b rfl : 1 + 2 ≤ _), (own_b rfl : 9 + 36 ≤ _)⟩)
  dsimp only [Pt.U, Pt.locs, Pt.cells, Pt.slots] at X35 l35 yy35 zz35 st35 hQ35 hs35 hg35
  obtain ⟨rfl, Nq35, K35, g0_35, g1_35, g2_35, g3_35, g4_35, g5_35, g6_35, g7_35, g8_35, g9_35⟩ := hQ35
  obtain ⟨L35, X35, N35⟩ := own_absC (K := 3) (K' := 45) X35 l35 yy35 zz35 N0 Nq35
  have X35 : Stand p l e ({ frames := 2, cells := 3, slots := 45, locals := 36 } : Room) (s.setVm T35.vm) m #[(.ref th), (.long pq)] below meth c T35 L35 3 45 := X35
  have hS35 := foldS hS0 (T := T34) (by rw [e34]; exact Z2) hs35 hg35
  have hZ35 : Z.Warmed39 (s.setVm T35.vm).vm := State.Warmed39.trans (t := s.setVm s.vm) hZ hs35.1
  have ho35 : (s.setVm T35.vm).vm.findClass "com/example/sluicegate/sluicegate/rule/HotParameterRule" = some m.cls := by rw [show (s.setVm T35.vm).vm = T35.vm from rfl, hs35.1.alike.findClass]; exact hown
  have F36 : n0 ≤ T35.heap.size := Nat.le_trans Z3 K35.1
  have F37 := Keep.trans K4 K35 (allS (Or.inr (Nat.le_trans K0.1 (Nat.le_of_eq ga1.symm))) all0)
  have F38 := Exa.keep F5 K35
  have F39 := Fld.keep F6 K35 (ninS (Ne.symm ne1_th) nin0)
  have F40 := Fld.keep F7 K35 (ninS (Ne.symm ne1_th) nin0)
  have F41 := Fld.keep F8 K35 (ninS (Ne.symm ne1_th) nin0)
  have F42 := Fld.keep F9 K35 (ninS (Ne.symm ne1_th) nin0)
  have F43 := Fld.keep F10 K35 (ninS (Ne.symm ne1_th) nin0)
  have F44 := Fld.keep F11 K35 (ninS (Ne.symm ne1_th) nin0)
  have F45 := Fld.keep F12 K35 (ninS (Ne.symm ne1_th) nin0)
  have F46 := Fld.keep F13 K35 (ninS (Ne.symm ne1_th) nin0)
  have F47 := Fld.keep F14 K35 (ninS (Ne.symm ne1_th) nin0)
  have F48 := own_sta_keep F15 K35 (nsS (Exa.nostat A1) ns0)
  have F49 := own_sta_keep F16 K35 (nsS (Exa.nostat A1) ns0)
  have F50 := own_sta_keep F17 K35 (nsS (Exa.nostat A1) ns0)
  have F51 := Exa.keep A1 K35
  have hk35 : T35.heap.size ≤ T35.heap.size := Nat.le_refl _
  refine own_tr (B := (T35.setTop (mkF m 39 #[rv th, .val (.long pq), .second] [(.ref a1)]))) st35 ?_
  exact own_retWA X35 hx hlk hS35 hk35 Bd.returns rfl rfl (hb hby own_wu_d39) (own_b rfl) (own_b rfl) (Q := (own_wu_Q Z th pq ar ac ae ab am ap ct pd h0 n0)) ⟨_, rfl, N35, F37, Nat.le_trans K0.1 (Nat.le_of_eq ga1.symm), g0_35, g1_35, g2_35, g3_35, g4_35, g5_35, g6_35, g7_35, g8_35, g9_35⟩

theorem own_gd_d0 : decode prog_38_method_16_code 0 = .ok (.aload_n 0, 1) := by decide +kernel
theorem own_gd_d1 : decode prog_38_method_16_code 1 = .ok (.getfield 95, 3) := by decide +kernel
theorem own_gd_d4 : decode prog_38_method_16_code 4 = .ok (.ireturn, 1) := by decide +kernel
theorem own_gd_pn : plainName "com/example/sluicegate/sluicegate/rule/HotParameterRule" = true := by first | (simp [plainName, overriddenIn]; done) | decide +kernel
theorem own_gd_ef (m : MethodId) (th : Addr) : entryFrame m #[(.ref th)] 1 = mkF m 0 #[rv th] [] := by first | (simp [entryFrame, mkF, argsToLocals, Value.category]; done) | rfl
def own_gd_Q (Z : State) (th : Addr) (du : Int32) (h0 : Heap) (n0 : Nat) (v : Option Value) (h : Heap) (L : List Loc) : Prop := v = some (.int du) ∧ Fr n0 L ∧ h = h0
set_option maxRecDepth 65536 in
set_option maxHeartbeats 40000000 in
theorem own_gd (l : Launch) (Z : State) (a0 : Array Value) (hw : ∀ d ∈ tables_1, d.before a0 Z = true) (ws : List Jvm.Cond) (th : Addr) (du : Int32) (h0 : Heap) (n0 : Nat) (Z0 : n0 ≤ h0.size) (H9000 : Fld Z h0 th "com/example/sluicegate/sluicegate/rule/HotParameterRule" "durationSeconds" "I" (.int du)) :
    MetFree l own_y12 (head1 (Jvm.Cond.code own_y12 prog_38_method_16_code 1 (some .int) :: ws) ({ frames := 0, cells := 0, slots := 0, locals := 0 } : Room)) (fun a U => a = #[(.ref th)] ∧ Z.Warmed39 U.vm ∧ U.heap = h0) (fun _ _ _ _ _ => True) (fun _ U o U' => ∃ v L, o = .returned v ∧ (own_gd_Q Z th du h0 n0) v U'.heap L ∧ FrameEnd U o U' L ({ frames := 0, cells := 0, slots := 0, locals := 0 } : Room).cells ({ frames := 0, cells := 0, slots := 0, locals := 0 } : Room).slots) := by
  refine MetFree.of_bodySF (plainFor_of_name own_gd_pn) hisR ?_
  intro p e s m args below meth c s₁ Bd hml0 hP hK
  obtain ⟨rfl, hZ, hh⟩ := hP
  have hx := Bd.exec
  have hby := Bd.bytes
  have hml : c.maxLocals = 1 := hml0
  have hown : s.vm.findClass "com/example/sluicegate/sluicegate/rule/HotParameterRule" = some m.cls := findClass_of_methodNamed Bd.named
  have hnm := (name_of_methodNamed Bd.named Bd.method).1
  have hlk : meth.locks = false := Bd.notSynchronized
  have X0 : Stand p l e ({ frames := 0, cells := 0, slots := 0, locals := 0 } : Room) s m #[(.ref th)] below meth c s₁ [] 0 0 := Stand.of_body Bd
  have e0 : s₁.heap = h0 := by rw [← hh, Bd.state]; rfl
  have N0 := Fr.nil n0
  have w_55 := hw _ (List.mem_of_getElem? (l := tables_1) (i := 55) rfl)
  show own_G p.tables e below (fun o U' => ∃ v L, o = .returned v ∧ (own_gd_Q Z th du h0 n0) v U'.heap L ∧ FrameEnd s o U' L ({ frames := 0, cells := 0, slots := 0, locals := 0 } : Room).cells ({ frames := 0, cells := 0, slots := 0, locals := 0 } : Room).slots) (s₁.setTop (entryFrame m #[(.ref th)] 1))
  refine own_go (B := s₁.setTop (mkF m 0 #[rv th] [])) (fun t k => castTop (own_gd_ef m th) k) ?_
  refine own_go (B := (s₁.setTop (mkF m 1 #[rv th] [(.ref th)]))) (fun t k => XS.aloadN X0.here hx rfl (hb hby own_gd_d0) rfl rfl k) ?_
  obtain ⟨T1, X1, e1, st1⟩ := getF X0 hx hZ hown (host := "") (Or.inl w_55) Via.refl e0 H9000 (g := (mkF m 1 #[rv th] [(.ref th)])) rfl rfl (hb hby own_gd_d1)
  refine own_go (B := (T1.setTop (mkF m 4 #[rv th] [(.int du)]))) st1 ?_
  exact own_retI X1 hx hlk Bd.returns (hb hby own_gd_d4) (own_b rfl) (own_b rfl) (Q := (own_gd_Q Z th du h0 n0)) ⟨rfl, N0, e1⟩

theorem own_gm_d0 : decode prog_38_method_19_code 0 = .ok (.aload_n 0, 1) := by decide +kernel
theorem own_gm_d1 : decode prog_38_method_19_code 1 = .ok (.getfield 101, 3) := by decide +kernel
theorem own_gm_d4 : decode prog_38_method_19_code 4 = .ok (.lreturn, 1) := by decide +kernel
theorem own_gm_pn : plainName "com/example/sluicegate/sluicegate/rule/HotParameterRule" = true := by first | (simp [plainName, overriddenIn]; done) | decide +kernel
theorem own_gm_ef (m : MethodId) (th : Addr) : entryFrame m #[(.ref th)] 1 = mkF m 0 #[rv th] [] := by first | (simp [entryFrame, mkF, argsToLocals, Value.category]; done) | rfl
def own_gm_Q (Z : State) (th : Addr) (mq : Int64) (h0 : Heap) (n0 : Nat) (v : Option Value) (h : Heap) (L : List Loc) : Prop := v = some (.long mq) ∧ Fr n0 L ∧ h = h0
set_option maxRecDepth 65536 in
set_option maxHeartbeats 40000000 in
theorem own_gm (l : Launch) (Z : State) (a0 : Array Value) (hw : ∀ d ∈ tables_1, d.before a0 Z = true) (ws : List Jvm.Cond) (th : Addr) (mq : Int64) (h0 : Heap) (n0 : Nat) (Z0 : n0 ≤ h0.size) (H9000 : Fld Z h0 th "com/example/sluicegate/sluicegate/rule/HotParameterRule" "maxQueueingMillis" "J" (.long mq)) :
    MetFree l own_y16 (head1 (Jvm.Cond.code own_y16 prog_38_method_19_code 1 (some .long) :: ws) ({ frames := 0, cells := 0, slots := 0, locals := 0 } : Room)) (fun a U => a = #[(.ref th)] ∧ Z.Warmed39 U.vm ∧ U.heap = h0) (fun _ _ _ _ _ => True) (fun _ U o U' => ∃ v L, o = .returned v ∧ (own_gm_Q Z th mq h0 n0) v U'.heap L ∧ FrameEnd U o U' L ({ frames := 0, cells := 0, slots := 0, locals := 0 } : Room).cells ({ frames := 0, cells := 0, slots := 0, locals := 0 } : Room).slots) := by
  refine MetFree.of_bodySF (plainFor_of_name own_gm_pn) hisR ?_
  intro p e s m args below meth c s₁ Bd hml0 hP hK
  obtain ⟨rfl, hZ, hh⟩ := hP
  have hx := Bd.exec
  have hby := Bd.bytes
  have hml : c.maxLocals = 1 := hml0
  have hown : s.vm.findClass "com/example/sluicegate/sluicegate/rule/HotParameterRule" = some m.cls := findClass_of_methodNamed Bd.named
  have hnm := (name_of_methodNamed Bd.named Bd.method).1
  have hlk : meth.locks = false := Bd.notSynchronized
  have X0 : Stand p l e ({ frames := 0, cells := 0, slots := 0, locals := 0 } : Room) s m #[(.ref th)] below meth c s₁ [] 0 0 := Stand.of_body Bd
  have e0 : s₁.heap = h0 := by rw [← hh, Bd.state]; rfl
  have N0 := Fr.nil n0
  have w_61 := hw _ (List.mem_of_getElem? (l := tables_1) (i := 61) rfl)
  show own_G p.tables e below (fun o U' => ∃ v L, o = .returned v ∧ (own_gm_Q Z th mq h0 n0) v U'.heap L ∧ FrameEnd s o U' L ({ frames := 0, cells := 0, slots := 0, locals := 0 } : Room).cells ({ frames := 0, cells := 0, slots := 0, locals := 0 } : Room).slots) (s₁.setTop (entryFrame m #[(.ref th)] 1))
  refine own_go (B := s₁.setTop (mkF m 0 #[rv th] [])) (fun t k => castTop (own_gm_ef m th) k) ?_
  refine own_go (B := (s₁.setTop (mkF m 1 #[rv th] [(.ref th)]))) (fun t k => XS.aloadN X0.here hx rfl (hb hby own_gm_d0) rfl rfl k) ?_
  obtain ⟨T1, X1, e1, st1⟩ := getF X0 hx hZ hown (host := "") (Or.inl w_61) Via.refl e0 H9000 (g := (mkF m 1 #[rv th] [(.ref th)])) rfl rfl (hb hby own_gm_d1)
  refine own_go (B := (T1.setTop (mkF m 4 #[rv th] [(.long mq)]))) st1 ?_
  exact own_retL X1 hx hlk Bd.returns (hb hby own_gm_d4) (own_b rfl) (own_b rfl) (Q := (own_gm_Q Z th mq h0 n0)) ⟨rfl, N0, e1⟩

theorem own_gf_d0 : decode prog_76_method_2_code 0 = .ok (.aload_n 0, 1) := by decide +kernel
theorem own_gf_d1 : decode prog_76_method_2_code 1 = .ok (.getfield 7, 3) := by decide +kernel
theorem own_gf_d4 : decode prog_76_method_2_code 4 = .ok (.lreturn, 1) := by decide +kernel
theorem own_gf_pn : plainName "com/example/sluicegate/sluicegate/rule/Slot" = true := by first | (simp [plainName, overriddenIn]; done) | decide +kernel
theorem own_gf_ef (m : MethodId) (th : Addr) : entryFrame m #[(.ref th)] 1 = mkF m 0 #[rv th] [] := by first | (simp [entryFrame, mkF, argsToLocals, Value.category]; done) | rfl
def own_gf_Q (Z : State) (th : Addr) (fr : Int64) (h0 : Heap) (n0 : Nat) (v : Option Value) (h : Heap) (L : List Loc) : Prop := v = some (.long fr) ∧ Fr n0 L ∧ h = h0
set_option maxRecDepth 65536 in
set_option maxHeartbeats 40000000 in
theorem own_gf (l : Launch) (Z : State) (a0 : Array Value) (hw : ∀ d ∈ tables_1, d.before a0 Z = true) (ws : List Jvm.Cond) (th : Addr) (fr : Int64) (h0 : Heap) (n0 : Nat) (Z0 : n0 ≤ h0.size) (H9000 : Fld Z h0 th "com/example/sluicegate/sluicegate/rule/Slot" "fromNanos" "J" (.long fr)) :
    MetFree l own_y19 (head1 (Jvm.Cond.code own_y19 prog_76_method_2_code 1 (some .long) :: ws) ({ frames := 0, cells := 0, slots := 0, locals := 0 } : Room)) (fun a U => a = #[(.ref th)] ∧ Z.Warmed39 U.vm ∧ U.heap = h0) (fun _ _ _ _ _ => True) (fun _ U o U' => ∃ v L, o = .returned v ∧ (own_gf_Q Z th fr h0 n0) v U'.heap L ∧ FrameEnd U o U' L ({ frames := 0, cells := 0, slots := 0, locals := 0 } : Room).cells ({ frames := 0, cells := 0, slots := 0, locals := 0 } : Room).slots) := by
  refine MetFree.of_bodySF (plainFor_of_name own_gf_pn) hisR ?_
  intro p e s m args below meth c s₁ Bd hml0 hP hK
  obtain ⟨rfl, hZ, hh⟩ := hP
  have hx := Bd.exec
  have hby := Bd.bytes
  have hml : c.maxLocals = 1 := hml0
  have hown : s.vm.findClass "com/example/sluicegate/sluicegate/rule/Slot" = some m.cls := findClass_of_methodNamed Bd.named
  have hnm := (name_of_methodNamed Bd.named Bd.method).1
  have hlk : meth.locks = false := Bd.notSynchronized
  have X0 : Stand p l e ({ frames := 0, cells := 0, slots := 0, locals := 0 } : Room) s m #[(.ref th)] below meth c s₁ [] 0 0 := Stand.of_body Bd
  have e0 : s₁.heap = h0 := by rw [← hh, Bd.state]; rfl
  have N0 := Fr.nil n0
  have w_224 := hw _ (List.mem_of_getElem? (l := tables_1) (i := 224) rfl)
  show own_G p.tables e below (fun o U' => ∃ v L, o = .returned v ∧ (own_gf_Q Z th fr h0 n0) v U'.heap L ∧ FrameEnd s o U' L ({ frames := 0, cells := 0, slots := 0, locals := 0 } : Room).cells ({ frames := 0, cells := 0, slots := 0, locals := 0 } : Room).slots) (s₁.setTop (entryFrame m #[(.ref th)] 1))
  refine own_go (B := s₁.setTop (mkF m 0 #[rv th] [])) (fun t k => castTop (own_gf_ef m th) k) ?_
  refine own_go (B := (s₁.setTop (mkF m 1 #[rv th] [(.ref th)]))) (fun t k => XS.aloadN X0.here hx rfl (hb hby own_gf_d0) rfl rfl k) ?_
  obtain ⟨T1, X1, e1, st1⟩ := getF X0 hx hZ hown (host := "") (Or.inl w_224) Via.refl e0 H9000 (g := (mkF m 1 #[rv th] [(.ref th)])) rfl rfl (hb hby own_gf_d1)
  refine own_go (B := (T1.setTop (mkF m 4 #[rv th] [(.long fr)]))) st1 ?_
  exact own_retL X1 hx hlk Bd.returns (hb hby own_gf_d4) (own_b rfl) (own_b rfl) (Q := (own_gf_Q Z th fr h0 n0)) ⟨rfl, N0, e1⟩

theorem own_gw_d0 : decode prog_76_method_3_code 0 = .ok (.aload_n 0, 1) := by decide +kernel
theorem own_gw_d1 : decode prog_76_method_3_code 1 = .ok (.getfield 13, 3) := by decide +kernel
theorem own_gw_d4 : decode prog_76_method_3_code 4 = .ok (.lreturn, 1) := by decide +kernel
theorem own_gw_pn : plainName "com/example/sluicegate/sluicegate/rule/Slot" = true := by first | (simp [plainName, overriddenIn]; done) | decide +kernel
theorem own_gw_ef (m : MethodId) (th : Addr) : entryFrame m #[(.ref th)] 1 = mkF m 0 #[rv th] [] := by first | (simp [entryFrame, mkF, argsToLocals, Value.category]; done) | rfl
def own_gw_Q (Z : State) (th : Addr) (wt : Int64) (h0 : Heap) (n0 : Nat) (v : Option Value) (h : Heap) (L : List Loc) : Prop := v = some (.long wt) ∧ Fr n0 L ∧ h = h0
set_option maxRecDepth 65536 in
set_option maxHeartbeats 40000000 in
theorem own_gw (l : Launch) (Z : State) (a0 : Array Value) (hw : ∀ d ∈ tables_1, d.before a0 Z = true) (ws : List Jvm.Cond) (th : Addr) (wt : Int64) (h0 : Heap) (n0 : Nat) (Z0 : n0 ≤ h0.size) (H9000 : Fld Z h0 th "com/example/sluicegate/sluicegate/rule/Slot" "waitNanos" "J" (.long wt)) :
    MetFree l own_y20 (head1 (Jvm.Cond.code own_y20 prog_76_method_3_code 1 (some .long) :: ws) ({ frames := 0, cells := 0, slots := 0, locals := 0 } : Room)) (fun a U => a = #[(.ref th)] ∧ Z.Warmed39 U.vm ∧ U.heap = h0) (fun _ _ _ _ _ => True) (fun _ U o U' => ∃ v L, o = .returned v ∧ (own_gw_Q Z th wt h0 n0) v U'.heap L ∧ FrameEnd U o U' L ({ frames := 0, cells := 0, slots := 0, locals := 0 } : Room).cells ({ frames := 0, cells := 0, slots := 0, locals := 0 } : Room).slots) := by
  refine MetFree.of_bodySF (plainFor_of_name own_gw_pn) hisR ?_
  intro p e s m args below meth c s₁ Bd hml0 hP hK
  obtain ⟨rfl, hZ, hh⟩ := hP
  have hx := Bd.exec
  have hby := Bd.bytes
  have hml : c.maxLocals = 1 := hml0
  have hown : s.vm.findClass "com/example/sluicegate/sluicegate/rule/Slot" = some m.cls := findClass_of_methodNamed Bd.named
  have hnm := (name_of_methodNamed Bd.named Bd.method).1
  have hlk : meth.locks = false := Bd.notSynchronized
  have X0 : Stand p l e ({ frames := 0, cells := 0, slots := 0, locals := 0 } : Room) s m #[(.ref th)] below meth c s₁ [] 0 0 := Stand.of_body Bd
  have e0 : s₁.heap = h0 := by rw [← hh, Bd.state]; rfl
  have N0 := Fr.nil n0
  have w_231 := hw _ (List.mem_of_getElem? (l := tables_1) (i := 231) rfl)
  show own_G p.tables e below (fun o U' => ∃ v L, o = .returned v ∧ (own_gw_Q Z th wt h0 n0) v U'.heap L ∧ FrameEnd s o U' L ({ frames := 0, cells := 0, slots := 0, locals := 0 } : Room).cells ({ frames := 0, cells := 0, slots := 0, locals := 0 } : Room).slots) (s₁.setTop (entryFrame m #[(.ref th)] 1))
  refine own_go (B := s₁.setTop (mkF m 0 #[rv th] [])) (fun t k => castTop (own_gw_ef m th) k) ?_
  refine own_go (B := (s₁.setTop (mkF m 1 #[rv th] [(.ref th)]))) (fun t k => XS.aloadN X0.here hx rfl (hb hby own_gw_d0) rfl rfl k) ?_
  obtain ⟨T1, X1, e1, st1⟩ := getF X0 hx hZ hown (host := "") (Or.inl w_231) Via.refl e0 H9000 (g := (mkF m 1 #[rv th] [(.ref th)])) rfl rfl (hb hby own_gw_d1)
  refine own_go (B := (T1.setTop (mkF m 4 #[rv th] [(.long wt)]))) st1 ?_
  exact own_retL X1 hx hlk Bd.returns (hb hby own_gw_d4) (own_b rfl) (own_b rfl) (Q := (own_gw_Q Z th wt h0 n0)) ⟨rfl, N0, e1⟩

theorem own_gs_d0 : decode prog_76_method_4_code 0 = .ok (.aload_n 0, 1) := by decide +kernel
theorem own_gs_d1 : decode prog_76_method_4_code 1 = .ok (.getfield 7, 3) := by decide +kernel
theorem own_gs_d4 : decode prog_76_method_4_code 4 = .ok (.aload_n 0, 1) := by decide +kernel
theorem own_gs_d5 : decode prog_76_method_4_code 5 = .ok (.getfield 13, 3) := by decide +kernel
theorem own_gs_d8 : decode prog_76_method_4_code 8 = .ok (.ladd, 1) := by decide +kernel
theorem own_gs_d9 : decode prog_76_method_4_code 9 = .ok (.lreturn, 1) := by decide +kernel
theorem own_gs_pn : plainName "com/example/sluicegate/sluicegate/rule/Slot" = true := by first | (simp [plainName, overriddenIn]; done) | decide +kernel
theorem own_gs_ef (m : MethodId) (th : Addr) : entryFrame m #[(.ref th)] 1 = mkF m 0 #[rv th] [] := by first | (simp [entryFrame, mkF, argsToLocals, Value.category]; done) | rfl
def own_gs_Q (Z : State) (th : Addr) (fr wt : Int64) (h0 : Heap) (n0 : Nat) (v : Option Value) (h : Heap) (L : List Loc) : Prop := v = some (.long (fr + wt)) ∧ Fr n0 L ∧ h = h0
set_option maxRecDepth 65536 in
set_option maxHeartbeats 40000000 in
theorem own_gs (l : Launch) (Z : State) (a0 : Array Value) (hw : ∀ d ∈ tables_1, d.before a0 Z = true) (ws : List Jvm.Cond) (th : Addr) (fr wt : Int64) (h0 : Heap) (n0 : Nat) (Z0 : n0 ≤ h0.size) (H9000 : Fld Z h0 th "com/example/sluicegate/sluicegate/rule/Slot" "fromNanos" "J" (.long fr)) (H9001 : Fld Z h0 th "com/example/sluicegate/sluicegate/rule/Slot" "waitNanos" "J" (.long wt)) :
    MetFree l own_y25 (head1 (Jvm.Cond.code own_y25 prog_76_method_4_code 1 (some .long) :: ws) ({ frames := 0, cells := 0, slots := 0, locals := 0 } : Room)) (fun a U => a = #[(.ref th)] ∧ Z.Warmed39 U.vm ∧ U.heap = h0) (fun _ _ _ _ _ => True) (fun _ U o U' => ∃ v L, o = .returned v ∧ (own_gs_Q Z th fr wt h0 n0) v U'.heap L ∧ FrameEnd U o U' L ({ frames := 0, cells := 0, slots := 0, locals := 0 } : Room).cells ({ frames := 0, cells := 0, slots := 0, locals := 0 } : Room).slots) := by
  refine MetFree.of_bodySF (plainFor_of_name own_gs_pn) hisR ?_
  intro p e s m args below meth c s₁ Bd hml0 hP hK
  obtain ⟨rfl, hZ, hh⟩ := hP
  have hx := Bd.exec
  have hby := Bd.bytes
  have hml : c.maxLocals = 1 := hml0
  have hown : s.vm.findClass "com/example/sluicegate/sluicegate/rule/Slot" = some m.cls := findClass_of_methodNamed Bd.named
  have hnm := (name_of_methodNamed Bd.named Bd.method).1
  have hlk : meth.locks = false := Bd.notSynchronized
  have X0 : Stand p l e ({ frames := 0, cells := 0, slots := 0, locals := 0 } : Room) s m #[(.ref th)] below meth c s₁ [] 0 0 := Stand.of_body Bd
  have e0 : s₁.heap = h0 := by rw [← hh, Bd.state]; rfl
  have N0 := Fr.nil n0
  have w_224 := hw _ (List.mem_of_getElem? (l := tables_1) (i := 224) rfl)
  have w_231 := hw _ (List.mem_of_getElem? (l := tables_1) (i := 231) rfl)
  show own_G p.tables e below (fun o U' => ∃ v L, o = .returned v ∧ (own_gs_Q Z th fr wt h0 n0) v U'.heap L ∧ FrameEnd s o U' L ({ frames := 0, cells := 0, slots := 0, locals := 0 } : Room).cells ({ frames := 0, cells := 0, slots := 0, locals := 0 } : Room).slots) (s₁.setTop (entryFrame m #[(.ref th)] 1))
  refine own_go (B := s₁.setTop (mkF m 0 #[rv th] [])) (fun t k => castTop (own_gs_ef m th) k) ?_
  refine own_go (B := (s₁.setTop (mkF m 1 #[rv th] [(.ref th)]))) (fun t k => XS.aloadN X0.here hx rfl (hb hby own_gs_d0) rfl rfl k) ?_
  obtain ⟨T1, X1, e1, st1⟩ := getF X0 hx hZ hown (host := "") (Or.inl w_224) Via.refl e0 H9000 (g := (mkF m 1 #[rv th] [(.ref th)])) rfl rfl (hb hby own_gs_d1)
  refine own_go (B := (T1.setTop (mkF m 4 #[rv th] [(.long fr)]))) st1 ?_
  refine own_go (B := (T1.setTop (mkF m 5 #[rv th] [(.ref th), (.long fr)]))) (fun t k => XS.aloadN X1.here hx rfl (hb hby own_gs_d4) rfl rfl k) ?_
  obtain ⟨T2, X2, e2, st2⟩ := getF X1 hx hZ hown (host := "") (Or.inl w_231) Via.refl e1 H9001 (g := (mkF m 5 #[rv th] [(.ref th), (.long fr)])) rfl rfl (hb hby own_gs_d5)
  refine own_go (B := (T2.setTop (mkF m 8 #[rv th] [(.long wt), (.long fr)]))) st2 ?_
  refine own_go (B := (T2.setTop (mkF m 9 #[rv th] [(.long (fr + wt))]))) (fun t k => XS.ladd (x := fr) (y := wt) X2.here hx rfl (hb hby own_gs_d8) rfl k) ?_
  exact own_retL X2 hx hlk Bd.returns (hb hby own_gs_d9) (own_b rfl) (own_b rfl) (Q := (own_gs_Q Z th fr wt h0 n0)) ⟨rfl, N0, e2⟩

theorem own_num_d0 : decode jdk_18_method_1_code 0 = .ok (.aload_n 0, 1) := by decide +kernel
theorem own_num_d1 : decode jdk_18_method_1_code 1 = .ok (.invokespecial 1, 3) := by decide +kernel
theorem own_num_d4 : decode jdk_18_method_1_code 4 = .ok (.return_, 1) := by decide +kernel
theorem own_num_pn : plainName "java/lang/Number" = true := by first | (simp [plainName, overriddenIn]; done) | decide +kernel
theorem own_num_ef (m : MethodId) (th : Addr) : entryFrame m #[(.ref th)] 1 = mkF m 0 #[rv th] [] := by first | (simp [entryFrame, mkF, argsToLocals, Value.category]; done) | rfl
def own_num_Q (Z : State) (th : Addr) (h0 : Heap) (n0 : Nat) (v : Option Value) (h : Heap) (L : List Loc) : Prop := v = none ∧ Fr n0 L ∧ h = h0
set_option maxRecDepth 65536 in
set_option maxHeartbeats 40000000 in
theorem own_num (l : Launch) (Z : State) (a0 : Array Value) (hw : ∀ d ∈ tables_1, d.before a0 Z = true) (ws : List Jvm.Cond) (th : Addr) (h0 : Heap) (n0 : Nat) (Z0 : n0 ≤ h0.size) :
    MetFree l own_y4 (head1 (Jvm.Cond.code own_y4 jdk_18_method_1_code 1 none :: ws) ({ frames := 1, cells := 0, slots := 0, locals := 12 } : Room)) (fun a U => a = #[(.ref th)] ∧ Z.Warmed39 U.vm ∧ U.heap = h0) (fun _ _ _ _ _ => True) (fun _ U o U' => ∃ v L, o = .returned v ∧ (own_num_Q Z th h0 n0) v U'.heap L ∧ FrameEnd U o U' L ({ frames := 1, cells := 0, slots := 0, locals := 12 } : Room).cells ({ frames := 1, cells := 0, slots := 0, locals := 12 } : Room).slots) := by
  refine MetFree.of_bodySF (plainFor_of_name own_num_pn) hisR ?_
  intro p e s m args below meth c s₁ Bd hml0 hP hK
  obtain ⟨rfl, hZ, hh⟩ := hP
  have hx := Bd.exec
  have hby := Bd.bytes
  have hml : c.maxLocals = 1 := hml0
  have hown : s.vm.findClass "java/lang/Number" = some m.cls := findClass_of_methodNamed Bd.named
  have hnm := (name_of_methodNamed Bd.named Bd.method).1
  have hlk : meth.locks = false := Bd.notSynchronized
  have X0 : Stand p l e ({ frames := 1, cells := 0, slots := 0, locals := 12 } : Room) s m #[(.ref th)] below meth c s₁ [] 0 0 := Stand.of_body Bd
  have e0 : s₁.heap = h0 := by rw [← hh, Bd.state]; rfl
  have N0 := Fr.nil n0
  have w_38 := hw _ (List.mem_of_getElem? (l := tables_1) (i := 38) rfl)
  have w_39 := hw _ (List.mem_of_getElem? (l := tables_1) (i := 39) rfl)
  have w_158 := hw _ (List.mem_of_getElem? (l := tables_1) (i := 158) rfl)
  show own_G p.tables e below (fun o U' => ∃ v L, o = .returned v ∧ (own_num_Q Z th h0 n0) v U'.heap L ∧ FrameEnd s o U' L ({ frames := 1, cells := 0, slots := 0, locals := 12 } : Room).cells ({ frames := 1, cells := 0, slots := 0, locals := 12 } : Room).slots) (s₁.setTop (entryFrame m #[(.ref th)] 1))
  refine own_go (B := s₁.setTop (mkF m 0 #[rv th] [])) (fun t k => castTop (own_num_ef m th) k) ?_
  refine own_go (B := (s₁.setTop (mkF m 1 #[rv th] [(.ref th)]))) (fun t k => XS.aloadN X0.here hx rfl (hb hby own_num_d0) rfl rfl k) ?_
  obtain ⟨T1, X1, e1, st1⟩ := initO X0 hx hZ hown w_158 w_38 w_39 e0 (g := (mkF m 1 #[rv th] [(.ref th)])) rfl (by rw [hml]; rfl) rfl (hb hby own_num_d1) (by decide) (W := 0) (by show 2 * 0 + _ ≤ _; exact own_b rfl) (by decide)
  refine own_go (B := (T1.setTop (mkF m 4 #[rv th] []))) st1 ?_
  exact own_retV X1 hx hlk Bd.returns (hb hby own_num_d4) (own_b rfl) (own_b rfl) (Q := (own_num_Q Z th h0 n0)) ⟨rfl, N0, e1⟩

theorem own_ai_d0 : decode jdk_2803_method_2_code 0 = .ok (.aload_n 0, 1) := by decide +kernel
theorem own_ai_d1 : decode jdk_2803_method_2_code 1 = .ok (.invokespecial 1, 3) := by decide +kernel
theorem own_ai_d4 : decode jdk_2803_method_2_code 4 = .ok (.return_, 1) := by decide +kernel
theorem own_ai_pn : plainName "java/util/concurrent/atomic/AtomicInteger" = true := by first | (simp [plainName, overriddenIn]; done) | decide +kernel
theorem own_ai_ef (m : MethodId) (th : Addr) : entryFrame m #[(.ref th)] 1 = mkF m 0 #[rv th] [] := by first | (simp [entryFrame, mkF, argsToLocals, Value.category]; done) | rfl
def own_ai_Q (Z : State) (th : Addr) (h0 : Heap) (n0 : Nat) (v : Option Value) (h : Heap) (L : List Loc) : Prop := v = none ∧ Fr n0 L ∧ h = h0
set_option maxRecDepth 65536 in
set_option maxHeartbeats 40000000 in
theorem own_ai (l : Launch) (Z : State) (a0 : Array Value) (hw : ∀ d ∈ tables_1, d.before a0 Z = true) (ws : List Jvm.Cond) (th : Addr) (h0 : Heap) (n0 : Nat) (Z0 : n0 ≤ h0.size) :
    MetFree l own_y10 (head1 (Jvm.Cond.code own_y10 jdk_2803_method_2_code 1 none :: ws) ({ frames := 2, cells := 0, slots := 0, locals := 24 } : Room)) (fun a U => a = #[(.ref th)] ∧ Z.Warmed39 U.vm ∧ U.heap = h0) (fun _ _ _ _ _ => True) (fun _ U o U' => ∃ v L, o = .returned v ∧ (own_ai_Q Z th h0 n0) v U'.heap L ∧ FrameEnd U o U' L ({ frames := 2, cells := 0, slots := 0, locals := 24 } : Room).cells ({ frames := 2, cells := 0, slots := 0, locals := 24 } : Room).slots) := by
  refine MetFree.of_bodySF (plainFor_of_name own_ai_pn) hisR ?_
  intro p e s m args below meth c s₁ Bd hml0 hP hK
  obtain ⟨rfl, hZ, hh⟩ := hP
  have hx := Bd.exec
  have hby := Bd.bytes
  have hml : c.maxLocals = 1 := hml0
  have hown : s.vm.findClass "java/util/concurrent/atomic/AtomicInteger" = some m.cls := findClass_of_methodNamed Bd.named
  have hnm := (name_of_methodNamed Bd.named Bd.method).1
  have hlk : meth.locks = false := Bd.notSynchronized
  have X0 : Stand p l e ({ frames := 2, cells := 0, slots := 0, locals := 24 } : Room) s m #[(.ref th)] below meth c s₁ [] 0 0 := Stand.of_body Bd
  have e0 : s₁.heap = h0 := by rw [← hh, Bd.state]; rfl
  have N0 := Fr.nil n0
  have w_152 := hw _ (List.mem_of_getElem? (l := tables_1) (i := 152) rfl)
  have w_153 := hw _ (List.mem_of_getElem? (l := tables_1) (i := 153) rfl)
  have w_156 := hw _ (List.mem_of_getElem? (l := tables_1) (i := 156) rfl)
  have w_157 := hw _ (List.mem_of_getElem? (l := tables_1) (i := 157) rfl)
  show own_G p.tables e below (fun o U' => ∃ v L, o = .returned v ∧ (own_ai_Q Z th h0 n0) v U'.heap L ∧ FrameEnd s o U' L ({ frames := 2, cells := 0, slots := 0, locals := 24 } : Room).cells ({ frames := 2, cells := 0, slots := 0, locals := 24 } : Room).slots) (s₁.setTop (entryFrame m #[(.ref th)] 1))
  refine own_go (B := s₁.setTop (mkF m 0 #[rv th] [])) (fun t k => castTop (own_ai_ef m th) k) ?_
  refine own_go (B := (s₁.setTop (mkF m 1 #[rv th] [(.ref th)]))) (fun t k => XS.aloadN X0.here hx rfl (hb hby own_ai_d0) rfl rfl k) ?_
  obtain ⟨_, _, ⟨T1, L1, k1, n1⟩, -, X1, ⟨Lc1, hQ1, l1, yy1, zz1⟩, st1⟩ := X0.specialBack hx (y := own_y4) rfl hown (mvT hZ w_152) (mvT hZ w_153) (mvT hZ w_157) (by decide) (backOf (W := 0) (own_num l Z a0 hw [] th h0 n0 Z0) hZ w_157 w_156 (by decide) (by decide)) (g := (mkF m 1 #[rv th] [(.ref th)])) rfl (by rw [hml]; rfl) (Steps.refl _) (a := th) (argsL := []) (rest := []) (lenOf own_pd4 rfl) rfl (by show 2 * 0 + _ ≤ _; exact own_b rfl) (hb hby own_ai_d1) (fun _ _ => ⟨rfl, e0, (own_b rfl : 0 + 0 ≤ _), (own_b rfl : 0 + 0 ≤ _)⟩)
  dsimp only [Pt.U, Pt.locs, Pt.cells, Pt.slots] at X1 l1 yy1 zz1 st1 hQ1
  obtain ⟨rfl, Nq1, eq1⟩ := hQ1
  obtain ⟨L1, X1, N1⟩ := own_absC (K := 0) (K' := 0) X1 l1 yy1 zz1 N0 Nq1
  have e1 : T1.heap = h0 := eq1
  refine own_tr (B := (T1.setTop (mkF m 4 #[rv th] []))) st1 ?_
  exact own_retV X1 hx hlk Bd.returns (hb hby own_ai_d4) (own_b rfl) (own_b rfl) (Q := (own_ai_Q Z th h0 n0)) ⟨rfl, N1, e1⟩

theorem own_al_d0 : decode jdk_2805_method_3_code 0 = .ok (.aload_n 0, 1) := by decide +kernel
theorem own_al_d1 : decode jdk_2805_method_3_code 1 = .ok (.invokespecial 1, 3) := by decide +kernel
theorem own_al_d4 : decode jdk_2805_method_3_code 4 = .ok (.return_, 1) := by decide +kernel
theorem own_al_pn : plainName "java/util/concurrent/atomic/AtomicLong" = true := by first | (simp [plainName, overriddenIn]; done) | decide +kernel
theorem own_al_ef (m : MethodId) (th : Addr) : entryFrame m #[(.ref th)] 1 = mkF m 0 #[rv th] [] := by first | (simp [entryFrame, mkF, argsToLocals, Value.category]; done) | rfl
def own_al_Q (Z : State) (th : Addr) (h0 : Heap) (n0 : Nat) (v : Option Value) (h : Heap) (L : List Loc) : Prop := v = none ∧ Fr n0 L ∧ h = h0
set_option maxRecDepth 65536 in
set_option maxHeartbeats 40000000 in
theorem own_al (l : Launch) (Z : State) (a0 : Array Value) (hw : ∀ d ∈ tables_1, d.before a0 Z = true) (ws : List Jvm.Cond) (th : Addr) (h0 : Heap) (n0 : Nat) (Z0 : n0 ≤ h0.size) :
    MetFree l own_y11 (head1 (Jvm.Cond.code own_y11 jdk_2805_method_3_code 1 none :: ws) ({ frames := 2, cells := 0, slots := 0, locals := 24 } : Room)) (fun a U => a = #[(.ref th)] ∧ Z.Warmed39 U.vm ∧ U.heap = h0) (fun _ _ _ _ _ => True) (fun _ U o U' => ∃ v L, o = .returned v ∧ (own_al_Q Z th h0 n0) v U'.heap L ∧ FrameEnd U o U' L ({ frames := 2, cells := 0, slots := 0, locals := 24 } : Room).cells ({ frames := 2, cells := 0, slots := 0, locals := 24 } : Room).slots) := by
  refine MetFree.of_bodySF (plainFor_of_name own_al_pn) hisR ?_
  intro p e s m args below meth c s₁ Bd hml0 hP hK
  obtain ⟨rfl, hZ, hh⟩ := hP
  have hx := Bd.exec
  have hby := Bd.bytes
  have hml : c.maxLocals = 1 := hml0
  have hown : s.vm.findClass "java/util/concurrent/atomic/AtomicLong" = some m.cls := findClass_of_methodNamed Bd.named
  have hnm := (name_of_methodNamed Bd.named Bd.method).1
  have hlk : meth.locks = false := Bd.notSynchronized
  have X0 : Stand p l e ({ frames := 2, cells := 0, slots := 0, locals := 24 } : Room) s m #[(.ref th)] below meth c s₁ [] 0 0 := Stand.of_body Bd
  have e0 : s₁.heap = h0 := by rw [← hh, Bd.state]; rfl
  have N0 := Fr.nil n0
  have w_153 := hw _ (List.mem_of_getElem? (l := tables_1) (i := 153) rfl)
  have w_156 := hw _ (List.mem_of_getElem? (l := tables_1) (i := 156) rfl)
  have w_157 := hw _ (List.mem_of_getElem? (l := tables_1) (i := 157) rfl)
  have w_167 := hw _ (List.mem_of_getElem? (l := tables_1) (i := 167) rfl)
  show own_G p.tables e below (fun o U' => ∃ v L, o = .returned v ∧ (own_al_Q Z th h0 n0) v U'.heap L ∧ FrameEnd s o U' L ({ frames := 2, cells := 0, slots := 0, locals := 24 } : Room).cells ({ frames := 2, cells := 0, slots := 0, locals := 24 } : Room).slots) (s₁.setTop (entryFrame m #[(.ref th)] 1))
  refine own_go (B := s₁.setTop (mkF m 0 #[rv th] [])) (fun t k => castTop (own_al_ef m th) k) ?_
  refine own_go (B := (s₁.setTop (mkF m 1 #[rv th] [(.ref th)]))) (fun t k => XS.aloadN X0.here hx rfl (hb hby own_al_d0) rfl rfl k) ?_
  obtain ⟨_, _, ⟨T1, L1, k1, n1⟩, -, X1, ⟨Lc1, hQ1, l1, yy1, zz1⟩, st1⟩ := X0.specialBack hx (y := own_y4) rfl hown (mvT hZ w_167) (mvT hZ w_153) (mvT hZ w_157) (by decide) (backOf (W := 0) (own_num l Z a0 hw [] th h0 n0 Z0) hZ w_157 w_156 (by decide) (by decide)) (g := (mkF m 1 #[rv th] [(.ref th)])) rfl (by rw [hml]; rfl) (Steps.refl _) (a := th) (argsL := []) (rest := []) (lenOf own_pd4 rfl) rfl (by show 2 * 0 + _ ≤ _; exact own_b rfl) (hb hby own_al_d1) (fun _ _ => ⟨rfl, e0, (own_b rfl : 0 + 0 ≤ _), (own_b rfl : 0 + 0 ≤ _)⟩)
  dsimp only [Pt.U, Pt.locs, Pt.cells, Pt.slots] at X1 l1 yy1 zz1 st1 hQ1
  obtain ⟨rfl, Nq1, eq1⟩ := hQ1
  obtain ⟨L1, X1, N1⟩ := own_absC (K := 0) (K' := 0) X1 l1 yy1 zz1 N0 Nq1
  have e1 : T1.heap = h0 := eq1
  refine own_tr (B := (T1.setTop (mkF m 4 #[rv th] []))) st1 ?_
  exact own_retV X1 hx hlk Bd.returns (hb hby own_al_d4) (own_b rfl) (own_b rfl) (Q := (own_al_Q Z th h0 n0)) ⟨rfl, N1, e1⟩

theorem own_abm_d0 : decode jdk_71_method_1_code 0 = .ok (.aload_n 0, 1) := by decide +kernel
theorem own_abm_d1 : decode jdk_71_method_1_code 1 = .ok (.invokespecial 1, 3) := by decide +kernel
theorem own_abm_d4 : decode jdk_71_method_1_code 4 = .ok (.return_, 1) := by decide +kernel
theorem own_abm_pn : plainName "java/util/AbstractMap" = true := by first | (simp [plainName, overriddenIn]; done) | decide +kernel
theorem own_abm_ef (m : MethodId) (th : Addr) : entryFrame m #[(.ref th)] 1 = mkF m 0 #[rv th] [] := by first | (simp [entryFrame, mkF, argsToLocals, Value.category]; done) | rfl
def own_abm_Q (Z : State) (th : Addr) (h0 : Heap) (n0 : Nat) (v : Option Value) (h : Heap) (L : List Loc) : Prop := v = none ∧ Fr n0 L ∧ h = h0
set_option maxRecDepth 65536 in
set_option maxHeartbeats 40000000 in
theorem own_abm (l : Launch) (Z : State) (a0 : Array Value) (hw : ∀ d ∈ tables_1, d.before a0 Z = true) (ws : List Jvm.Cond) (th : Addr) (h0 : Heap) (n0 : Nat) (Z0 : n0 ≤ h0.size) :
    MetFree l own_y5 (head1 (Jvm.Cond.code own_y5 jdk_71_method_1_code 1 none :: ws) ({ frames := 1, cells := 0, slots := 0, locals := 12 } : Room)) (fun a U => a = #[(.ref th)] ∧ Z.Warmed39 U.vm ∧ U.heap = h0) (fun _ _ _ _ _ => True) (fun _ U o U' => ∃ v L, o = .returned v ∧ (own_abm_Q Z th h0 n0) v U'.heap L ∧ FrameEnd U o U' L ({ frames := 1, cells := 0, slots := 0, locals := 12 } : Room).cells ({ frames := 1, cells := 0, slots := 0, locals := 12 } : Room).slots) := by
  refine MetFree.of_bodySF (plainFor_of_name own_abm_pn) hisR ?_
  intro p e s m args below meth c s₁ Bd hml0 hP hK
  obtain ⟨rfl, hZ, hh⟩ := hP
  have hx := Bd.exec
  have hby := Bd.bytes
  have hml : c.maxLocals = 1 := hml0
  have hown : s.vm.findClass "java/util/AbstractMap" = some m.cls := findClass_of_methodNamed Bd.named
  have hnm := (name_of_methodNamed Bd.named Bd.method).1
  have hlk : meth.locks = false := Bd.notSynchronized
  have X0 : Stand p l e ({ frames := 1, cells := 0, slots := 0, locals := 12 } : Room) s m #[(.ref th)] below meth c s₁ [] 0 0 := Stand.of_body Bd
  have e0 : s₁.heap = h0 := by rw [← hh, Bd.state]; rfl
  have N0 := Fr.nil n0
  have w_38 := hw _ (List.mem_of_getElem? (l := tables_1) (i := 38) rfl)
  have w_39 := hw _ (List.mem_of_getElem? (l := tables_1) (i := 39) rfl)
  have w_135 := hw _ (List.mem_of_getElem? (l := tables_1) (i := 135) rfl)
  show own_G p.tables e below (fun o U' => ∃ v L, o = .returned v ∧ (own_abm_Q Z th h0 n0) v U'.heap L ∧ FrameEnd s o U' L ({ frames := 1, cells := 0, slots := 0, locals := 12 } : Room).cells ({ frames := 1, cells := 0, slots := 0, locals := 12 } : Room).slots) (s₁.setTop (entryFrame m #[(.ref th)] 1))
  refine own_go (B := s₁.setTop (mkF m 0 #[rv th] [])) (fun t k => castTop (own_abm_ef m th) k) ?_
  refine own_go (B := (s₁.setTop (mkF m 1 #[rv th] [(.ref th)]))) (fun t k => XS.aloadN X0.here hx rfl (hb hby own_abm_d0) rfl rfl k) ?_
  obtain ⟨T1, X1, e1, st1⟩ := initO X0 hx hZ hown w_135 w_38 w_39 e0 (g := (mkF m 1 #[rv th] [(.ref th)])) rfl (by rw [hml]; rfl) rfl (hb hby own_abm_d1) (by decide) (W := 0) (by show 2 * 0 + _ ≤ _; exact own_b rfl) (by decide)
  refine own_go (B := (T1.setTop (mkF m 4 #[rv th] []))) st1 ?_
  exact own_retV X1 hx hlk Bd.returns (hb hby own_abm_d4) (own_b rfl) (own_b rfl) (Q := (own_abm_Q Z th h0 n0)) ⟨rfl, N0, e1⟩

theorem own_hm_d0 : decode jdk_69_method_7_code 0 = .ok (.aload_n 0, 1) := by decide +kernel
theorem own_hm_d1 : decode jdk_69_method_7_code 1 = .ok (.invokespecial 43, 3) := by decide +kernel
theorem own_hm_d4 : decode jdk_69_method_7_code 4 = .ok (.aload_n 0, 1) := by decide +kernel
theorem own_hm_d5 : decode jdk_69_method_7_code 5 = .ok (.ldc 92, 2) := by decide +kernel
theorem own_hm_d7 : decode jdk_69_method_7_code 7 = .ok (.putfield 81, 3) := by decide +kernel
theorem own_hm_d10 : decode jdk_69_method_7_code 10 = .ok (.return_, 1) := by decide +kernel
theorem own_hm_pn : plainName "java/util/HashMap" = true := by first | (simp [plainName, overriddenIn]; done) | decide +kernel
theorem own_hm_ef (m : MethodId) (th : Addr) : entryFrame m #[(.ref th)] 1 = mkF m 0 #[rv th] [] := by first | (simp [entryFrame, mkF, argsToLocals, Value.category]; done) | rfl
def own_hm_Q (Z : State) (th : Addr) (h0 : Heap) (n0 : Nat) (v : Option Value) (h : Heap) (L : List Loc) : Prop := v = none ∧ Fr n0 L ∧ Keep h0 h [th]
set_option maxRecDepth 65536 in
set_option maxHeartbeats 40000000 in
theorem own_hm (l : Launch) (Z : State) (a0 : Array Value) (hw : ∀ d ∈ tables_1, d.before a0 Z = true) (ws : List Jvm.Cond) (th : Addr) (h0 : Heap) (n0 : Nat) (Z0 : n0 ≤ h0.size) (H9000 : Exa Z h0 th "java/util/HashMap") (H9001 : n0 ≤ th) (H9002 : Fld Z h0 th "java/util/HashMap" "loadFactor" "F" (.float (0 : UInt32))) :
    MetFree l own_y7 (head1 (Jvm.Cond.code own_y7 jdk_69_method_7_code 1 none :: ws) ({ frames := 2, cells := 0, slots := 0, locals := 24 } : Room)) (fun a U => a = #[(.ref th)] ∧ Z.Warmed39 U.vm ∧ U.heap = h0) (fun _ _ _ _ _ => True) (fun _ U o U' => ∃ v L, o = .returned v ∧ (own_hm_Q Z th h0 n0) v U'.heap L ∧ FrameEnd U o U' L ({ frames := 2, cells := 0, slots := 0, locals := 24 } : Room).cells ({ frames := 2, cells := 0, slots := 0, locals := 24 } : Room).slots) := by
  refine MetFree.of_bodySF (plainFor_of_name own_hm_pn) hisR ?_
  intro p e s m args below meth c s₁ Bd hml0 hP hK
  obtain ⟨rfl, hZ, hh⟩ := hP
  have hx := Bd.exec
  have hby := Bd.bytes
  have hml : c.maxLocals = 1 := hml0
  have hown : s.vm.findClass "java/util/HashMap" = some m.cls := findClass_of_methodNamed Bd.named
  have hnm := (name_of_methodNamed Bd.named Bd.method).1
  have hlk : meth.locks = false := Bd.notSynchronized
  have X0 : Stand p l e ({ frames := 2, cells := 0, slots := 0, locals := 24 } : Room) s m #[(.ref th)] below meth c s₁ [] 0 0 := Stand.of_body Bd
  have e0 : s₁.heap = h0 := by rw [← hh, Bd.state]; rfl
  have N0 := Fr.nil n0
  have w_124 := hw _ (List.mem_of_getElem? (l := tables_1) (i := 124) rfl)
  have w_129 := hw _ (List.mem_of_getElem? (l := tables_1) (i := 129) rfl)
  have w_130 := hw _ (List.mem_of_getElem? (l := tables_1) (i := 130) rfl)
  have w_133 := hw _ (List.mem_of_getElem? (l := tables_1) (i := 133) rfl)
  have w_134 := hw _ (List.mem_of_getElem? (l := tables_1) (i := 134) rfl)
  have w_136 := hw _ (List.mem_of_getElem? (l := tables_1) (i := 136) rfl)
  have w_137 := hw _ (List.mem_of_getElem? (l := tables_1) (i := 137) rfl)
  have w_138 := hw _ (List.mem_of_getElem? (l := tables_1) (i := 138) rfl)
  show own_G p.tables e below (fun o U' => ∃ v L, o = .returned v ∧ (own_hm_Q Z th h0 n0) v U'.heap L ∧ FrameEnd s o U' L ({ frames := 2, cells := 0, slots := 0, locals := 24 } : Room).cells ({ frames := 2, cells := 0, slots := 0, locals := 24 } : Room).slots) (s₁.setTop (entryFrame m #[(.ref th)] 1))
  refine own_go (B := s₁.setTop (mkF m 0 #[rv th] [])) (fun t k => castTop (own_hm_ef m th) k) ?_
  have K0 := Keep.refl h0 [th]
  refine own_go (B := (s₁.setTop (mkF m 1 #[rv th] [(.ref th)]))) (fun t k => XS.aloadN X0.here hx rfl (hb hby own_hm_d0) rfl rfl k) ?_
  obtain ⟨_, _, ⟨T1, L1, k1, n1⟩, -, X1, ⟨Lc1, hQ1, l1, yy1, zz1⟩, st1⟩ := X0.specialBack hx (y := own_y5) rfl hown (mvT hZ w_129) (mvT hZ w_130) (mvT hZ w_134) (by decide) (backOf (W := 0) (own_abm l Z a0 hw [] th h0 n0 Z0) hZ w_134 w_133 (by decide) (by decide)) (g := (mkF m 1 #[rv th] [(.ref th)])) rfl (by rw [hml]; rfl) (Steps.refl _) (a := th) (argsL := []) (rest := []) (lenOf own_pd4 rfl) rfl (by show 2 * 0 + _ ≤ _; exact own_b rfl) (hb hby own_hm_d1) (fun _ _ => ⟨rfl, e0, (own_b rfl : 0 + 0 ≤ _), (own_b rfl : 0 + 0 ≤ _)⟩)
  dsimp only [Pt.U, Pt.locs, Pt.cells, Pt.slots] at X1 l1 yy1 zz1 st1 hQ1
  obtain ⟨rfl, Nq1, eq1⟩ := hQ1
  obtain ⟨L1, X1, N1⟩ := own_absC (K := 0) (K' := 0) X1 l1 yy1 zz1 N0 Nq1
  have e1 : T1.heap = h0 := eq1
  refine own_tr (B := (T1.setTop (mkF m 4 #[rv th] []))) st1 ?_
  refine own_go (B := (T1.setTop (mkF m 5 #[rv th] [(.ref th)]))) (fun t k => XS.aloadN X1.here hx rfl (hb hby own_hm_d4) rfl rfl k) ?_
  have lc2 := X1.ldcFloatC hx hown (b := (1061158912 : UInt32)) (mvT hZ w_136) (g := (mkF m 5 #[rv th] [(.ref th)])) rfl (hb hby own_hm_d5)
  refine own_go (B := (T1.setTop (mkF m 7 #[rv th] [(.float (1061158912 : UInt32)), (.ref th)]))) lc2 ?_
  obtain ⟨T3, h3, X3, e3, W3, st3⟩ := putF X1 hx hZ hown (host := "") (Or.inl w_137) Via.refl e1 H9002 H9000 (Or.inr ⟨w_138, rfl, hnm⟩) w_124 (ty := .float) (by decide) rfl rfl (g := (mkF m 7 #[rv th] [(.float (1061158912 : UInt32)), (.ref th)])) rfl rfl (hb hby own_hm_d7)
  refine own_go (B := (T3.setTop (mkF m 10 #[rv th] []))) st3 ?_
  obtain ⟨L3, X3, N3⟩ := own_abs X3 (Fr.snoc X3 N1 H9001)
  have F4 : n0 ≤ h3.size := by rw [W3.size]; exact Z0
  have F5 := Keep.wr K0 W3 (Or.inl (List.mem_of_getElem? (i := 0) rfl))
  have F6 := Exa.wr W3 H9000
  have F7 := Fld.same W3 H9002
  exact own_retV X3 hx hlk Bd.returns (hb hby own_hm_d10) (own_b rfl) (own_b rfl) (Q := (own_hm_Q Z th h0 n0)) (by rw [e3]; exact ⟨rfl, N3, F5⟩)

theorem own_sp1_d0 : decode prog_77_method_1_code 0 = .ok (.aload_n 0, 1) := by decide +kernel
theorem own_sp1_d1 : decode prog_77_method_1_code 1 = .ok (.invokespecial 3, 3) := by decide +kernel
theorem own_sp1_d4 : decode prog_77_method_1_code 4 = .ok (.aload_n 0, 1) := by decide +kernel
theorem own_sp1_d5 : decode prog_77_method_1_code 5 = .ok (.bipush 17, 2) := by decide +kernel
theorem own_sp1_d7 : decode prog_77_method_1_code 7 = .ok (.iload_n 1, 1) := by decide +kernel
theorem own_sp1_d8 : decode prog_77_method_1_code 8 = .ok (.iadd, 1) := by decide +kernel
theorem own_sp1_d9 : decode prog_77_method_1_code 9 = .ok (.bipush 16, 2) := by decide +kernel
theorem own_sp1_d11 : decode prog_77_method_1_code 11 = .ok (.iadd, 1) := by decide +kernel
theorem own_sp1_d12 : decode prog_77_method_1_code 12 = .ok (.newarray .long, 2) := by decide +kernel
theorem own_sp1_d14 : decode prog_77_method_1_code 14 = .ok (.putfield 9, 3) := by decide +kernel
theorem own_sp1_d17 : decode prog_77_method_1_code 17 = .ok (.return_, 1) := by decide +kernel
theorem own_sp1_pn : plainName "com/example/sluicegate/sluicegate/rule/SpinLock" = true := by first | (simp [plainName, overriddenIn]; done) | decide +kernel
theorem own_sp1_ef (m : MethodId) (th : Addr) : entryFrame m #[(.ref th), (.int (0 : Int32))] 2 = mkF m 0 #[rv th, iv (0 : Int32)] [] := by first | (simp [entryFrame, mkF, argsToLocals, Value.category]; done) | rfl
def own_sp1_Q (Z : State) (th : Addr) (h0 : Heap) (n0 : Nat) (v : Option Value) (h : Heap) (L : List Loc) : Prop := v = none ∧ Fr n0 L ∧ Keep h0 h [th]
set_option maxRecDepth 65536 in
set_option maxHeartbeats 40000000 in
theorem own_sp1 (l : Launch) (Z : State) (a0 : Array Value) (hw : ∀ d ∈ tables_1, d.before a0 Z = true) (ws : List Jvm.Cond) (th : Addr) (h0 : Heap) (n0 : Nat) (Z0 : n0 ≤ h0.size) (H9000 : Exa Z h0 th "com/example/sluicegate/sluicegate/rule/SpinLock") (H9001 : n0 ≤ th) (H9002 : Fld Z h0 th "com/example/sluicegate/sluicegate/rule/SpinLock" "words" "[J" .null) :
    MetFree l own_y6 (head1 (Jvm.Cond.code own_y6 prog_77_method_1_code 2 none :: ws) ({ frames := 1, cells := 1, slots := 33, locals := 12 } : Room)) (fun a U => a = #[(.ref th), (.int (0 : Int32))] ∧ Z.Warmed39 U.vm ∧ U.heap = h0) (fun _ _ _ _ _ => True) (fun _ U o U' => ∃ v L, o = .returned v ∧ (own_sp1_Q Z th h0 n0) v U'.heap L ∧ FrameEnd U o U' L ({ frames := 1, cells := 1, slots := 33, locals := 12 } : Room).cells ({ frames := 1, cells := 1, slots := 33, locals := 12 } : Room).slots) := by
  refine MetFree.of_bodySF (plainFor_of_name own_sp1_pn) hisR ?_
  intro p e s m args below meth c s₁ Bd hml0 hP hK
  obtain ⟨rfl, hZ, hh⟩ := hP
  have hx := Bd.exec
  have hby := Bd.bytes
  have hml : c.maxLocals = 2 := hml0
  have hown : s.vm.findClass "com/example/sluicegate/sluicegate/rule/SpinLock" = some m.cls := findClass_of_methodNamed Bd.named
  have hnm := (name_of_methodNamed Bd.named Bd.method).1
  have hlk : meth.locks = false := Bd.notSynchronized
  have X0 : Stand p l e ({ frames := 1, cells := 1, slots := 33, locals := 12 } : Room) s m #[(.ref th), (.int (0 : Int32))] below meth c s₁ [] 0 0 := Stand.of_body Bd
  have e0 : s₁.heap = h0 := by rw [← hh, Bd.state]; rfl
  have N0 := Fr.nil n0
  have w_38 := hw _ (List.mem_of_getElem? (l := tables_1) (i := 38) rfl)
  have w_39 := hw _ (List.mem_of_getElem? (l := tables_1) (i := 39) rfl)
  have w_98 := hw _ (List.mem_of_getElem? (l := tables_1) (i := 98) rfl)
  have w_103 := hw _ (List.mem_of_getElem? (l := tables_1) (i := 103) rfl)
  have w_104 := hw _ (List.mem_of_getElem? (l := tables_1) (i := 104) rfl)
  have w_105 := hw _ (List.mem_of_getElem? (l := tables_1) (i := 105) rfl)
  have w_106 := hw _ (List.mem_of_getElem? (l := tables_1) (i := 106) rfl)
  show own_G p.tables e below (fun o U' => ∃ v L, o = .returned v ∧ (own_sp1_Q Z th h0 n0) v U'.heap L ∧ FrameEnd s o U' L ({ frames := 1, cells := 1, slots := 33, locals := 12 } : Room).cells ({ frames := 1, cells := 1, slots := 33, locals := 12 } : Room).slots) (s₁.setTop (entryFrame m #[(.ref th), (.int (0 : Int32))] 2))
  refine own_go (B := s₁.setTop (mkF m 0 #[rv th, iv (0 : Int32)] [])) (fun t k => castTop (own_sp1_ef m th) k) ?_
  have K0 := Keep.refl h0 [th]
  refine own_go (B := (s₁.setTop (mkF m 1 #[rv th, iv (0 : Int32)] [(.ref th)]))) (fun t k => XS.aloadN X0.here hx rfl (hb hby own_sp1_d0) rfl rfl k) ?_
  obtain ⟨T1, X1, e1, st1⟩ := initO X0 hx hZ hown w_103 w_38 w_39 e0 (g := (mkF m 1 #[rv th, iv (0 : Int32)] [(.ref th)])) rfl (by rw [hml]; rfl) rfl (hb hby own_sp1_d1) (by decide) (W := 0) (by show 2 * 0 + _ ≤ _; exact own_b rfl) (by decide)
  refine own_go (B := (T1.setTop (mkF m 4 #[rv th, iv (0 : Int32)] []))) st1 ?_
  refine own_go (B := (T1.setTop (mkF m 5 #[rv th, iv (0 : Int32)] [(.ref th)]))) (fun t k => XS.aloadN X1.here hx rfl (hb hby own_sp1_d4) rfl rfl k) ?_
  refine own_go (B := (T1.setTop (mkF m 7 #[rv th, iv (0 : Int32)] [(.int (17 : Int32)), (.ref th)]))) (fun t k => own_bipush (v := (17 : Int32)) X1.here hx rfl (hb hby own_sp1_d5) (by decide) k) ?_
  refine own_go (B := (T1.setTop (mkF m 8 #[rv th, iv (0 : Int32)] [(.int (0 : Int32)), (.int (17 : Int32)), (.ref th)]))) (fun t k => XS.iloadN X1.here hx rfl (hb hby own_sp1_d7) rfl k) ?_
  refine own_go (B := (T1.setTop (mkF m 9 #[rv th, iv (0 : Int32)] [(.int ((17 : Int32) + (0 : Int32))), (.ref th)]))) (fun t k => XS.iadd (x := (17 : Int32)) (y := (0 : Int32)) X1.here hx rfl (hb hby own_sp1_d8) rfl k) ?_
  rw [show ((17 : Int32) + (0 : Int32)) = (17 : Int32) from by decide]
  refine own_go (B := (T1.setTop (mkF m 11 #[rv th, iv (0 : Int32)] [(.int (16 : Int32)), (.int (17 : Int32)), (.ref th)]))) (fun t k => own_bipush (v := (16 : Int32)) X1.here hx rfl (hb hby own_sp1_d9) (by decide) k) ?_
  refine own_go (B := (T1.setTop (mkF m 12 #[rv th, iv (0 : Int32)] [(.int ((17 : Int32) + (16 : Int32))), (.ref th)]))) (fun t k => XS.iadd (x := (17 : Int32)) (y := (16 : Int32)) X1.here hx rfl (hb hby own_sp1_d11) rfl k) ?_
  rw [show ((17 : Int32) + (16 : Int32)) = (33 : Int32) from by decide]
  obtain ⟨T2, h2, c2, X2, e2, E2, A2, st2⟩ := newP X1 hx hZ (aty := .long) w_104 e1 (g := (mkF m 12 #[rv th, iv (0 : Int32)] [(.int (33 : Int32)), (.ref th)])) rfl (hb hby own_sp1_d12) rfl (by decide) (cap := 33) (by decide) (by decide) (own_b rfl) (own_b rfl)
  obtain ⟨a2, ga2⟩ : ∃ z, z = h0.size := ⟨_, rfl⟩
  rw [← ga2] at A2 st2
  refine own_go (B := (T2.setTop (mkF m 14 #[rv th, iv (0 : Int32)] [(.ref a2), (.ref th)]))) st2 ?_
  have Z3 : n0 ≤ h2.size := Nat.le_trans Z0 E2.1
  have K4 := Keep.ext K0 E2
  have F5 := Exa.ext E2 H9000
  have F6 := Fld.ext E2 H9002
  have gn2 : n0 ≤ a2 := Nat.le_trans Z0 (Nat.le_of_eq ga2.symm)
  have ne2_th : a2 ≠ th := fun q => absurd (H9000.lt) (by rw [← q, ga2]; exact Nat.lt_irrefl _)
  have V2 : own_Ar Z h2 a2 .long [(.long (0 : Int64)), (.long (0 : Int64)), (.long (0 : Int64)), (.long (0 : Int64)), (.long (0 : Int64)), (.long (0 : Int64)), (.long (0 : Int64)), (.long (0 : Int64)), (.long (0 : Int64)), (.long (0 : Int64)), (.long (0 : Int64)), (.long (0 : Int64)), (.long (0 : Int64)), (.long (0 : Int64)), (.long (0 : Int64)), (.long (0 : Int64)), (.long (0 : Int64)), (.long (0 : Int64)), (.long (0 : Int64)), (.long (0 : Int64)), (.long (0 : Int64)), (.long (0 : Int64)), (.long (0 : Int64)), (.long (0 : Int64)), (.long (0 : Int64)), (.long (0 : Int64)), (.long (0 : Int64)), (.long (0 : Int64)), (.long (0 : Int64)), (.long (0 : Int64)), (.long (0 : Int64)), (.long (0 : Int64)), (.long (0 : Int64))] := own_Ar_new A2 (N := 33) (by decide) rfl
  obtain ⟨T7, h7, X7, e7, W7, st7⟩ := putF X2 hx hZ hown (host := "") (Or.inl w_105) Via.refl e2 F6 F5 (Or.inr ⟨w_106, rfl, hnm⟩) w_98 (ty := (.array .long)) (by decide) rfl rfl (g := (mkF m 14 #[rv th, iv (0 : Int32)] [(.ref a2), (.ref th)])) rfl rfl (hb hby own_sp1_d14)
  refine own_go (B := (T7.setTop (mkF m 17 #[rv th, iv (0 : Int32)] []))) st7 ?_
  obtain ⟨L7, X7, N7⟩ := own_abs X7 (Fr.snoc X7 N0 H9001)
  have F8 : n0 ≤ h7.size := by rw [W7.size]; exact Z3
  have F9 := Keep.wr K4 W7 (Or.inl (List.mem_of_getElem? (i := 0) rfl))
  have F10 := Exa.wr W7 F5
  have F11 := Fld.same W7 F6
  have F12 := own_Ar_other V2 W7 ne2_th
  exact own_retV X7 hx hlk Bd.returns (hb hby own_sp1_d17) (own_b rfl) (own_b rfl) (Q := (own_sp1_Q Z th h0 n0)) (by rw [e7]; exact ⟨rfl, N7, F9⟩)

theorem own_sp2_d0 : decode prog_77_method_1_code 0 = .ok (.aload_n 0, 1) := by decide +kernel
theorem own_sp2_d1 : decode prog_77_method_1_code 1 = .ok (.invokespecial 3, 3) := by decide +kernel
theorem own_sp2_d4 : decode prog_77_method_1_code 4 = .ok (.aload_n 0, 1) := by decide +kernel
theorem own_sp2_d5 : decode prog_77_method_1_code 5 = .ok (.bipush 17, 2) := by decide +kernel
theorem own_sp2_d7 : decode prog_77_method_1_code 7 = .ok (.iload_n 1, 1) := by decide +kernel
theorem own_sp2_d8 : decode prog_77_method_1_code 8 = .ok (.iadd, 1) := by decide +kernel
theorem own_sp2_d9 : decode prog_77_method_1_code 9 = .ok (.bipush 16, 2) := by decide +kernel
theorem own_sp2_d11 : decode prog_77_method_1_code 11 = .ok (.iadd, 1) := by decide +kernel
theorem own_sp2_d12 : decode prog_77_method_1_code 12 = .ok (.newarray .long, 2) := by decide +kernel
theorem own_sp2_d14 : decode prog_77_method_1_code 14 = .ok (.putfield 9, 3) := by decide +kernel
theorem own_sp2_d17 : decode prog_77_method_1_code 17 = .ok (.return_, 1) := by decide +kernel
theorem own_sp2_pn : plainName "com/example/sluicegate/sluicegate/rule/SpinLock" = true := by first | (simp [plainName, overriddenIn]; done) | decide +kernel
theorem own_sp2_ef (m : MethodId) (th : Addr) : entryFrame m #[(.ref th), (.int (0 : Int32))] 2 = mkF m 0 #[rv th, iv (0 : Int32)] [] := by first | (simp [entryFrame, mkF, argsToLocals, Value.category]; done) | rfl
def own_sp2_Q (Z : State) (th : Addr) (h0 : Heap) (n0 : Nat) (v : Option Value) (h : Heap) (L : List Loc) : Prop := v = none ∧ Fr n0 L ∧ Keep h0 h [th] ∧ Fld Z h th "com/example/sluicegate/sluicegate/rule/ValueShards$Shard" "kept" "Ljava/util/Map;" .null ∧ Fld Z h th "com/example/sluicegate/sluicegate/rule/ValueShards$Shard" "place" "I" (.int (0 : Int32))
set_option maxRecDepth 65536 in
set_option maxHeartbeats 40000000 in
theorem own_sp2 (l : Launch) (Z : State) (a0 : Array Value) (hw : ∀ d ∈ tables_1, d.before a0 Z = true) (ws : List Jvm.Cond) (th : Addr) (h0 : Heap) (n0 : Nat) (Z0 : n0 ≤ h0.size) (H9000 : Exa Z h0 th "com/example/sluicegate/sluicegate/rule/ValueShards$Shard") (H9001 : n0 ≤ th) (H9002 : Fld Z h0 th "com/example/sluicegate/sluicegate/rule/SpinLock" "words" "[J" .null) (H9003 : Fld Z h0 th "com/example/sluicegate/sluicegate/rule/ValueShards$Shard" "kept" "Ljava/util/Map;" .null) (H9004 : Fld Z h0 th "com/example/sluicegate/sluicegate/rule/ValueShards$Shard" "place" "I" (.int (0 : Int32))) :
    MetFree l own_y6 (head1 (Jvm.Cond.code own_y6 prog_77_method_1_code 2 none :: ws) ({ frames := 1, cells := 1, slots := 33, locals := 12 } : Room)) (fun a U => a = #[(.ref th), (.int (0 : Int32))] ∧ Z.Warmed39 U.vm ∧ U.heap = h0) (fun _ _ _ _ _ => True) (fun _ U o U' => ∃ v L, o = .returned v ∧ (own_sp2_Q Z th h0 n0) v U'.heap L ∧ FrameEnd U o U' L ({ frames := 1, cells := 1, slots := 33, locals := 12 } : Room).cells ({ frames := 1, cells := 1, slots := 33, locals := 12 } : Room).slots) := by
  refine MetFree.of_bodySF (plainFor_of_name own_sp2_pn) hisR ?_
  intro p e s m args below meth c s₁ Bd hml0 hP hK
  obtain ⟨rfl, hZ, hh⟩ := hP
  have hx := Bd.exec
  have hby := Bd.bytes
  have hml : c.maxLocals = 2 := hml0
  have hown : s.vm.findClass "com/example/sluicegate/sluicegate/rule/SpinLock" = some m.cls := findClass_of_methodNamed Bd.named
  have hnm := (name_of_methodNamed Bd.named Bd.method).1
  have hlk : meth.locks = false := Bd.notSynchronized
  have X0 : Stand p l e ({ frames := 1, cells := 1, slots := 33, locals := 12 } : Room) s m #[(.ref th), (.int (0 : Int32))] below meth c s₁ [] 0 0 := Stand.of_body Bd
  have e0 : s₁.heap = h0 := by rw [← hh, Bd.state]; rfl
  have N0 := Fr.nil n0
  have w_38 := hw _ (List.mem_of_getElem? (l := tables_1) (i := 38) rfl)
  have w_39 := hw _ (List.mem_of_getElem? (l := tables_1) (i := 39) rfl)
  have w_103 := hw _ (List.mem_of_getElem? (l := tables_1) (i := 103) rfl)
  have w_104 := hw _ (List.mem_of_getElem? (l := tables_1) (i := 104) rfl)
  have w_105 := hw _ (List.mem_of_getElem? (l := tables_1) (i := 105) rfl)
  have w_115 := hw _ (List.mem_of_getElem? (l := tables_1) (i := 115) rfl)
  have w_122 := hw _ (List.mem_of_getElem? (l := tables_1) (i := 122) rfl)
  have w_140 := hw _ (List.mem_of_getElem? (l := tables_1) (i := 140) rfl)
  have w_142 := hw _ (List.mem_of_getElem? (l := tables_1) (i := 142) rfl)
  show own_G p.tables e below (fun o U' => ∃ v L, o = .returned v ∧ (own_sp2_Q Z th h0 n0) v U'.heap L ∧ FrameEnd s o U' L ({ frames := 1, cells := 1, slots := 33, locals := 12 } : Room).cells ({ frames := 1, cells := 1, slots := 33, locals := 12 } : Room).slots) (s₁.setTop (entryFrame m #[(.ref th), (.int (0 : Int32))] 2))
  refine own_go (B := s₁.setTop (mkF m 0 #[rv th, iv (0 : Int32)] [])) (fun t k => castTop (own_sp2_ef m th) k) ?_
  have K0 := Keep.refl h0 [th]
  refine own_go (B := (s₁.setTop (mkF m 1 #[rv th, iv (0 : Int32)] [(.ref th)]))) (fun t k => XS.aloadN X0.here hx rfl (hb hby own_sp2_d0) rfl rfl k) ?_
  obtain ⟨T1, X1, e1, st1⟩ := initO X0 hx hZ hown w_103 w_38 w_39 e0 (g := (mkF m 1 #[rv th, iv (0 : Int32)] [(.ref th)])) rfl (by rw [hml]; rfl) rfl (hb hby own_sp2_d1) (by decide) (W := 0) (by show 2 * 0 + _ ≤ _; exact own_b rfl) (by decide)
  refine own_go (B := (T1.setTop (mkF m 4 #[rv th, iv (0 : Int32)] []))) st1 ?_
  refine own_go (B := (T1.setTop (mkF m 5 #[rv th, iv (0 : Int32)] [(.ref th)]))) (fun t k => XS.aloadN X1.here hx rfl (hb hby own_sp2_d4) rfl rfl k) ?_
  refine own_go (B := (T1.setTop (mkF m 7 #[rv th, iv (0 : Int32)] [(.int (17 : Int32)), (.ref th)]))) (fun t k => own_bipush (v := (17 : Int32)) X1.here hx rfl (hb hby own_sp2_d5) (by decide) k) ?_
  refine own_go (B := (T1.setTop (mkF m 8 #[rv th, iv (0 : Int32)] [(.int (0 : Int32)), (.int (17 : Int32)), (.ref th)]))) (fun t k => XS.iloadN X1.here hx rfl (hb hby own_sp2_d7) rfl k) ?_
  refine own_go (B := (T1.setTop (mkF m 9 #[rv th, iv (0 : Int32)] [(.int ((17 : Int32) + (0 : Int32))), (.ref th)]))) (fun t k => XS.iadd (x := (17 : Int32)) (y := (0 : Int32)) X1.here hx rfl (hb hby own_sp2_d8) rfl k) ?_
  rw [show ((17 : Int32) + (0 : Int32)) = (17 : Int32) from by decide]
  refine own_go (B := (T1.setTop (mkF m 11 #[rv th, iv (0 : Int32)] [(.int (16 : Int32)), (.int (17 : Int32)), (.ref th)]))) (fun t k => own_bipush (v := (16 : Int32)) X1.here hx rfl (hb hby own_sp2_d9) (by decide) k) ?_
  refine own_go (B := (T1.setTop (mkF m 12 #[rv th, iv (0 : Int32)] [(.int ((17 : Int32) + (16 : Int32))), (.ref th)]))) (fun t k => XS.iadd (x := (17 : Int32)) (y := (16 : Int32)) X1.here hx rfl (hb hby own_sp2_d11) rfl k) ?_
  rw [show ((17 : Int32) + (16 : Int32)) = (33 : Int32) from by decide]
  obtain ⟨T2, h2, c2, X2, e2, E2, A2, st2⟩ := newP X1 hx hZ (aty := .long) w_104 e1 (g := (mkF m 12 #[rv th, iv (0 : Int32)] [(.int (33 : Int32)), (.ref th)])) rfl (hb hby own_sp2_d12) rfl (by decide) (cap := 33) (by decide) (by decide) (own_b rfl) (own_b rfl)
  obtain ⟨a2, ga2⟩ : ∃ z, z = h0.size := ⟨_, rfl⟩
  rw [← ga2] at A2 st2
  refine own_go (B := (T2.setTop (mkF m 14 #[rv th, iv (0 : Int32)] [(.ref a2), (.ref th)]))) st2 ?_
  have Z3 : n0 ≤ h2.size := Nat.le_trans Z0 E2.1
  have K4 := Keep.ext K0 E2
  have F5 := Exa.ext E2 H9000
  have F6 := Fld.ext E2 H9002
  have F7 := Fld.ext E2 H9003
  have F8 := Fld.ext E2 H9004
  have gn2 : n0 ≤ a2 := Nat.le_trans Z0 (Nat.le_of_eq ga2.symm)
  have ne2_th : a2 ≠ th := fun q => absurd (H9000.lt) (by rw [← q, ga2]; exact Nat.lt_irrefl _)
  have V2 : own_Ar Z h2 a2 .long [(.long (0 : Int64)), (.long (0 : Int64)), (.long (0 : Int64)), (.long (0 : Int64)), (.long (0 : Int64)), (.long (0 : Int64)), (.long (0 : Int64)), (.long (0 : Int64)), (.long (0 : Int64)), (.long (0 : Int64)), (.long (0 : Int64)), (.long (0 : Int64)), (.long (0 : Int64)), (.long (0 : Int64)), (.long (0 : Int64)), (.long (0 : Int64)), (.long (0 : Int64)), (.long (0 : Int64)), (.long (0 : Int64)), (.long (0 : Int64)), (.long (0 : Int64)), (.long (0 : Int64)), (.long (0 : Int64)), (.long (0 : Int64)), (.long (0 : Int64)), (.long (0 : Int64)), (.long (0 : Int64)), (.long (0 : Int64)), (.long (0 : Int64)), (.long (0 : Int64)), (.long (0 : Int64)), (.long (0 : Int64)), (.long (0 : Int64))] := own_Ar_new A2 (N := 33) (by decide) rfl
  obtain ⟨T9, h9, X9, e9, W9, st9⟩ := putF X2 hx hZ hown (host := "") (Or.inl w_105) Via.refl e2 F6 F5 (Or.inr ⟨w_122, rfl, hnm⟩) w_115 (ty := (.array .long)) (by decide) rfl rfl (g := (mkF m 14 #[rv th, iv (0 : Int32)] [(.ref a2), (.ref th)])) rfl rfl (hb hby own_sp2_d14)
  refine own_go (B := (T9.setTop (mkF m 17 #[rv th, iv (0 : Int32)] []))) st9 ?_
  obtain ⟨L9, X9, N9⟩ := own_abs X9 (Fr.snoc X9 N0 H9001)
  have F10 : n0 ≤ h9.size := by rw [W9.size]; exact Z3
  have F11 := Keep.wr K4 W9 (Or.inl (List.mem_of_getElem? (i := 0) rfl))
  have F12 := Exa.wr W9 F5
  have F13 := Fld.same W9 F6
  have F14 := Fld.other W9 F7 (Or.inr (slot_ne (t := (.object "java/util/Map")) (t' := (.array .long)) (Or.inl w_140) (Or.inr w_122) (by decide) (by decide) (by decide)))
  have F15 := Fld.other W9 F8 (Or.inr (slot_ne (t := .int) (t' := (.array .long)) (Or.inr w_142) (Or.inr w_122) (by decide) (by decide) (by decide)))
  have F16 := own_Ar_other V2 W9 ne2_th
  exact own_retV X9 hx hlk Bd.returns (hb hby own_sp2_d17) (own_b rfl) (own_b rfl) (Q := (own_sp2_Q Z th h0 n0)) (by rw [e9]; exact ⟨rfl, N9, F11, F14, F15⟩)

theorem own_sh_d0 : decode prog_83_method_1_code 0 = .ok (.aload_n 0, 1) := by decide +kernel
theorem own_sh_d1 : decode prog_83_method_1_code 1 = .ok (.iconst 0, 1) := by decide +kernel
theorem own_sh_d2 : decode prog_83_method_1_code 2 = .ok (.invokespecial 1, 3) := by decide +kernel
theorem own_sh_d5 : decode prog_83_method_1_code 5 = .ok (.aload_n 0, 1) := by decide +kernel
theorem own_sh_d6 : decode prog_83_method_1_code 6 = .ok (.new 7, 3) := by decide +kernel
theorem own_sh_d9 : decode prog_83_method_1_code 9 = .ok (.dup, 1) := by decide +kernel
theorem own_sh_d10 : decode prog_83_method_1_code 10 = .ok (.invokespecial 9, 3) := by decide +kernel
theorem own_sh_d13 : decode prog_83_method_1_code 13 = .ok (.putfield 12, 3) := by decide +kernel
theorem own_sh_d16 : decode prog_83_method_1_code 16 = .ok (.aload_n 0, 1) := by decide +kernel
theorem own_sh_d17 : decode prog_83_method_1_code 17 = .ok (.iload_n 1, 1) := by decide +kernel
theorem own_sh_d18 : decode prog_83_method_1_code 18 = .ok (.putfield 18, 3) := by decide +kernel
theorem own_sh_d21 : decode prog_83_method_1_code 21 = .ok (.return_, 1) := by decide +kernel
theorem own_sh_pn : plainName "com/example/sluicegate/sluicegate/rule/ValueShards$Shard" = true := by first | (simp [plainName, overriddenIn]; done) | decide +kernel
theorem own_sh_ef (m : MethodId) (th : Addr) (pl : Int32) : entryFrame m #[(.ref th), (.int pl)] 2 = mkF m 0 #[rv th, iv pl] [] := by first | (simp [entryFrame, mkF, argsToLocals, Value.category]; done) | rfl
def own_sh_Q (Z : State) (th : Addr) (pl : Int32) (h0 : Heap) (n0 : Nat) (v : Option Value) (h : Heap) (L : List Loc) : Prop := v = none ∧ Fr n0 L ∧ Keep h0 h [th]
set_option maxRecDepth 65536 in
set_option maxHeartbeats 40000000 in
theorem own_sh (l : Launch) (Z : State) (a0 : Array Value) (hw : ∀ d ∈ tables_1, d.before a0 Z = true) (ws : List Jvm.Cond) (th : Addr) (pl : Int32) (h0 : Heap) (n0 : Nat) (Z0 : n0 ≤ h0.size) (H9000 : Exa Z h0 th "com/example/sluicegate/sluicegate/rule/ValueShards$Shard") (H9001 : n0 ≤ th) (H9002 : Fld Z h0 th "com/example/sluicegate/sluicegate/rule/SpinLock" "words" "[J" .null) (H9003 : Fld Z h0 th "com/example/sluicegate/sluicegate/rule/ValueShards$Shard" "kept" "Ljava/util/Map;" .null) (H9004 : Fld Z h0 th "com/example/sluicegate/sluicegate/rule/ValueShards$Shard" "place" "I" (.int (0 : Int32))) :
    MetFree l own_y8 (head1 (Jvm.Cond.code own_y8 prog_83_method_1_code 2 none :: ws) ({ frames := 3, cells := 2, slots := 41, locals := 38 } : Room)) (fun a U => a = #[(.ref th), (.int pl)] ∧ Z.Warmed39 U.vm ∧ U.heap = h0) (fun _ _ _ _ _ => True) (fun _ U o U' => ∃ v L, o = .returned v ∧ (own_sh_Q Z th pl h0 n0) v U'.heap L ∧ FrameEnd U o U' L ({ frames := 3, cells := 2, slots := 41, locals := 38 } : Room).cells ({ frames := 3, cells := 2, slots := 41, locals := 38 } : Room).slots) := by
  refine MetFree.of_bodySF (plainFor_of_name own_sh_pn) hisR ?_
  intro p e s m args below meth c s₁ Bd hml0 hP hK
  obtain ⟨rfl, hZ, hh⟩ := hP
  have hx := Bd.exec
  have hby := Bd.bytes
  have hml : c.maxLocals = 2 := hml0
  have hown : s.vm.findClass "com/example/sluicegate/sluicegate/rule/ValueShards$Shard" = some m.cls := findClass_of_methodNamed Bd.named
  have hnm := (name_of_methodNamed Bd.named Bd.method).1
  have hlk : meth.locks = false := Bd.notSynchronized
  have X0 : Stand p l e ({ frames := 3, cells := 2, slots := 41, locals := 38 } : Room) s m #[(.ref th), (.int pl)] below meth c s₁ [] 0 0 := Stand.of_body Bd
  have e0 : s₁.heap = h0 := by rw [← hh, Bd.state]; rfl
  have N0 := Fr.nil n0
  have w_99 := hw _ (List.mem_of_getElem? (l := tables_1) (i := 99) rfl)
  have w_101 := hw _ (List.mem_of_getElem? (l := tables_1) (i := 101) rfl)
  have w_102 := hw _ (List.mem_of_getElem? (l := tables_1) (i := 102) rfl)
  have w_115 := hw _ (List.mem_of_getElem? (l := tables_1) (i := 115) rfl)
  have w_120 := hw _ (List.mem_of_getElem? (l := tables_1) (i := 120) rfl)
  have w_123 := hw _ (List.mem_of_getElem? (l := tables_1) (i := 123) rfl)
  have w_124 := hw _ (List.mem_of_getElem? (l := tables_1) (i := 124) rfl)
  have w_125 := hw _ (List.mem_of_getElem? (l := tables_1) (i := 125) rfl)
  have w_126 := hw _ (List.mem_of_getElem? (l := tables_1) (i := 126) rfl)
  have w_127 := hw _ (List.mem_of_getElem? (l := tables_1) (i := 127) rfl)
  have w_128 := hw _ (List.mem_of_getElem? (l := tables_1) (i := 128) rfl)
  have w_138 := hw _ (List.mem_of_getElem? (l := tables_1) (i := 138) rfl)
  have w_139 := hw _ (List.mem_of_getElem? (l := tables_1) (i := 139) rfl)
  have w_140 := hw _ (List.mem_of_getElem? (l := tables_1) (i := 140) rfl)
  have w_141 := hw _ (List.mem_of_getElem? (l := tables_1) (i := 141) rfl)
  have w_142 := hw _ (List.mem_of_getElem? (l := tables_1) (i := 142) rfl)
  show own_G p.tables e below (fun o U' => ∃ v L, o = .returned v ∧ (own_sh_Q Z th pl h0 n0) v U'.heap L ∧ FrameEnd s o U' L ({ frames := 3, cells := 2, slots := 41, locals := 38 } : Room).cells ({ frames := 3, cells := 2, slots := 41, locals := 38 } : Room).slots) (s₁.setTop (entryFrame m #[(.ref th), (.int pl)] 2))
  refine own_go (B := s₁.setTop (mkF m 0 #[rv th, iv pl] [])) (fun t k => castTop (own_sh_ef m th pl) k) ?_
  have K0 := Keep.refl h0 [th]
  refine own_go (B := (s₁.setTop (mkF m 1 #[rv th, iv pl] [(.ref th)]))) (fun t k => XS.aloadN X0.here hx rfl (hb hby own_sh_d0) rfl rfl k) ?_
  refine own_go (B := (s₁.setTop (mkF m 2 #[rv th, iv pl] [(.int (0 : Int32)), (.ref th)]))) (fun t k => own_iconst (v := (0 : Int32)) X0.here hx rfl (hb hby own_sh_d1) (by decide) k) ?_
  obtain ⟨_, _, ⟨T1, L1, k1, n1⟩, -, X1, ⟨Lc1, hQ1, l1, yy1, zz1⟩, st1⟩ := X0.specialBack hx (y := own_y6) rfl hown (mvT hZ w_120) (mvT hZ w_101) (mvT hZ w_102) (by decide) (backOf (W := 0) (own_sp2 l Z a0 hw [] th h0 n0 Z0 H9000 H9001 H9002 H9003 H9004) hZ w_102 w_99 (by decide) (by decide)) (g := (mkF m 2 #[rv th, iv pl] [(.int (0 : Int32)), (.ref th)])) rfl (by rw [hml]; rfl) (Steps.refl _) (a := th) (argsL := [(.int (0 : Int32))]) (rest := []) (lenOf own_pd5 rfl) rfl (by show 2 * 0 + _ ≤ _; exact own_b rfl) (hb hby own_sh_d2) (fun _ _ => ⟨rfl, e0, (own_b rfl : 0 + 1 ≤ _), (own_b rfl : 0 + 33 ≤ _)⟩)
  dsimp only [Pt.U, Pt.locs, Pt.cells, Pt.slots] at X1 l1 yy1 zz1 st1 hQ1
  obtain ⟨rfl, Nq1, K1, g0_1, g1_1⟩ := hQ1
  obtain ⟨L1, X1, N1⟩ := own_absC (K := 1) (K' := 33) X1 l1 yy1 zz1 N0 Nq1
  have F2 : n0 ≤ T1.heap.size := Nat.le_trans Z0 K1.1
  have F3 := Keep.trans K0 K1 (allS (Or.inl (List.mem_of_getElem? (i := 0) rfl)) all0)
  have F4 := Exa.keep H9000 K1
  refine own_tr (B := (T1.setTop (mkF m 5 #[rv th, iv pl] []))) st1 ?_
  refine own_go (B := (T1.setTop (mkF m 6 #[rv th, iv pl] [(.ref th)]))) (fun t k => XS.aloadN X1.here hx rfl (hb hby own_sh_d5) rfl rfl k) ?_
  obtain ⟨T8, h8, X8, e8, E8, A8, D8, U8, st8⟩ := newO X1 hx hZ hown w_123 w_124 w_125 rfl (g := (mkF m 6 #[rv th, iv pl] [(.ref th)])) rfl (hb hby own_sh_d6) (own_b rfl) (own_b rfl)
  obtain ⟨a8, ga8⟩ : ∃ z, z = T1.heap.size := ⟨_, rfl⟩
  rw [← ga8] at A8 D8 U8 st8
  refine own_go (B := (T8.setTop (mkF m 9 #[rv th, iv pl] [(.ref a8), (.ref th)]))) st8 ?_
  have Z9 : n0 ≤ h8.size := Nat.le_trans F2 E8.1
  have K10 := Keep.ext F3 E8
  have F11 := Exa.ext E8 F4
  have F12 := Fld.ext E8 g0_1
  have F13 := Fld.ext E8 g1_1
  have gn8 : n0 ≤ a8 := Nat.le_trans F2 (Nat.le_of_eq ga8.symm)
  have ne8_th : a8 ≠ th := fun q => absurd (F4.lt) (by rw [← q, ga8]; exact Nat.lt_irrefl _)
  have F14 : Fld Z h8 a8 "java/util/HashMap" "loadFactor" "F" (.float (0 : UInt32)) := D8 (Or.inr w_138) (ty := .float) (by decide)
  refine own_go (B := (T8.setTop (mkF m 10 #[rv th, iv pl] [(.ref a8), (.ref a8), (.ref th)]))) (fun t k => XS.dup X8.here hx rfl (hb hby own_sh_d9) rfl rfl k) ?_
  obtain ⟨_, _, ⟨T15, L15, k15, n15⟩, -, X15, ⟨Lc15, hQ15, l15, yy15, zz15⟩, st15⟩ := X8.specialBack hx (y := own_y7) rfl hown (mvT hZ w_126) (mvT hZ w_127) (mvT hZ w_128) (by decide) (backOf (W := 2) (own_hm l Z a0 hw [] a8 h8 n0 Z9 A8 gn8 F14) hZ w_128 w_125 (by decide) (by decide)) (g := (mkF m 10 #[rv th, iv pl] [(.ref a8), (.ref a8), (.ref th)])) rfl (by rw [hml]; rfl) (Steps.refl _) (a := a8) (argsL := []) (rest := [(.ref a8), (.ref th)]) (lenOf own_pd4 rfl) rfl (by show 2 * 0 + _ ≤ _; exact own_b rfl) (hb hby own_sh_d10) (fun _ _ => ⟨rfl, e8, (own_b rfl : 2 + 0 ≤ _), (own_b rfl : 41 + 0 ≤ _)⟩)
  dsimp only [Pt.U, Pt.locs, Pt.cells, Pt.slots] at X15 l15 yy15 zz15 st15 hQ15
  obtain ⟨rfl, Nq15, K15⟩ := hQ15
  obtain ⟨L15, X15, N15⟩ := own_absC (K := 2) (K' := 41) X15 l15 yy15 zz15 N1 Nq15
  have F16 : n0 ≤ T15.heap.size := Nat.le_trans Z9 K15.1
  have F17 := Keep.trans K10 K15 (allS (Or.inr (Nat.le_trans F3.1 (Nat.le_of_eq ga8.symm))) all0)
  have F18 := Exa.keep F11 K15
  have F19 := Fld.keep F12 K15 (ninS (Ne.symm ne8_th) nin0)
  have F20 := Fld.keep F13 K15 (ninS (Ne.symm ne8_th) nin0)
  have F21 := Exa.keep A8 K15
  refine own_tr (B := (T15.setTop (mkF m 13 #[rv th, iv pl] [(.ref a8), (.ref th)]))) st15 ?_
  obtain ⟨T23, h23, X23, e23, W23, st23⟩ := putF X15 hx hZ hown (host := "") (Or.inl w_139) Via.refl rfl F19 F18 (Or.inl w_140) w_115 (ty := (.object "java/util/Map")) (by decide) rfl rfl (g := (mkF m 13 #[rv th, iv pl] [(.ref a8), (.ref th)])) rfl rfl (hb hby own_sh_d13)
  refine own_go (B := (T23.setTop (mkF m 16 #[rv th, iv pl] []))) st23 ?_
  obtain ⟨L23, X23, N23⟩ := own_abs X23 (Fr.snoc X23 N15 H9001)
  have F24 : n0 ≤ h23.size := by rw [W23.size]; exact F16
  have F25 := Keep.wr F17 W23 (Or.inl (List.mem_of_getElem? (i := 0) rfl))
  have F26 := Exa.wr W23 F18
  have F27 := Fld.same W23 F19
  have F28 := Fld.other W23 F20 (Or.inr (slot_ne (t := .int) (t' := (.object "java/util/Map")) (Or.inr w_142) (Or.inl w_140) (by decide) (by decide) (by decide)))
  have F29 := Exa.wr W23 F21
  refine own_go (B := (T23.setTop (mkF m 17 #[rv th, iv pl] [(.ref th)]))) (fun t k => XS.aloadN X23.here hx rfl (hb hby own_sh_d16) rfl rfl k) ?_
  refine own_go (B := (T23.setTop (mkF m 18 #[rv th, iv pl] [(.int pl), (.ref th)]))) (fun t k => XS.iloadN X23.here hx rfl (hb hby own_sh_d17) rfl k) ?_
  obtain ⟨T30, h30, X30, e30, W30, st30⟩ := putF X23 hx hZ hown (host := "") (Or.inl w_141) Via.refl e23 F28 F26 (Or.inr ⟨w_142, rfl, hnm⟩) w_115 (ty := .int) (by decide) rfl rfl (g := (mkF m 18 #[rv th, iv pl] [(.int pl), (.ref th)])) rfl rfl (hb hby own_sh_d18)
  refine own_go (B := (T30.setTop (mkF m 21 #[rv th, iv pl] []))) st30 ?_
  obtain ⟨L30, X30, N30⟩ := own_abs X30 (Fr.snoc X30 N23 H9001)
  have F31 : n0 ≤ h30.size := by rw [W30.size]; exact F24
  have F32 := Keep.wr F25 W30 (Or.inl (List.mem_of_getElem? (i := 0) rfl))
  have F33 := Exa.wr W30 F26
  have F34 := Fld.other W30 F27 (Or.inr (slot_ne (t := (.object "java/util/Map")) (t' := .int) (Or.inl w_140) (Or.inr w_142) (by decide) (by decide) (by decide)))
  have F35 := Fld.same W30 F28
  have F36 := Exa.wr W30 F29
  exact own_retV X30 hx hlk Bd.returns (hb hby own_sh_d21) (own_b rfl) (own_b rfl) (Q := (own_sh_Q Z th pl h0 n0)) (by rw [e30]; exact ⟨rfl, N30, F32⟩)

theorem own_vs_d0 : decode prog_82_method_1_code 0 = .ok (.aload_n 0, 1) := by decide +kernel
theorem own_vs_d1 : decode prog_82_method_1_code 1 = .ok (.invokespecial 1, 3) := by decide +kernel
theorem own_vs_d4 : decode prog_82_method_1_code 4 = .ok (.aload_n 0, 1) := by decide +kernel
theorem own_vs_d5 : decode prog_82_method_1_code 5 = .ok (.new 7, 3) := by decide +kernel
theorem own_vs_d8 : decode prog_82_method_1_code 8 = .ok (.dup, 1) := by decide +kernel
theorem own_vs_d9 : decode prog_82_method_1_code 9 = .ok (.iconst 0, 1) := by decide +kernel
theorem own_vs_d10 : decode prog_82_method_1_code 10 = .ok (.invokespecial 9, 3) := by decide +kernel
theorem own_vs_d13 : decode prog_82_method_1_code 13 = .ok (.putfield 12, 3) := by decide +kernel
theorem own_vs_d16 : decode prog_82_method_1_code 16 = .ok (.aload_n 0, 1) := by decide +kernel
theorem own_vs_d17 : decode prog_82_method_1_code 17 = .ok (.getstatic 18, 3) := by decide +kernel
theorem own_vs_d20 : decode prog_82_method_1_code 20 = .ok (.anewarray 22, 3) := by decide +kernel
theorem own_vs_d23 : decode prog_82_method_1_code 23 = .ok (.putfield 24, 3) := by decide +kernel
theorem own_vs_d26 : decode prog_82_method_1_code 26 = .ok (.iconst 0, 1) := by decide +kernel
theorem own_vs_d27 : decode prog_82_method_1_code 27 = .ok (.istore_n 1, 1) := by decide +kernel
theorem own_vs_d28 : decode prog_82_method_1_code 28 = .ok (.iload_n 1, 1) := by decide +kernel
theorem own_vs_d29 : decode prog_82_method_1_code 29 = .ok (.getstatic 18, 3) := by decide +kernel
theorem own_vs_d32 : decode prog_82_method_1_code 32 = .ok (.if_icmp .ge 23, 3) := by decide +kernel
theorem own_vs_d35 : decode prog_82_method_1_code 35 = .ok (.aload_n 0, 1) := by decide +kernel
theorem own_vs_d36 : decode prog_82_method_1_code 36 = .ok (.getfield 24, 3) := by decide +kernel
theorem own_vs_d39 : decode prog_82_method_1_code 39 = .ok (.iload_n 1, 1) := by decide +kernel
theorem own_vs_d40 : decode prog_82_method_1_code 40 = .ok (.new 22, 3) := by decide +kernel
theorem own_vs_d43 : decode prog_82_method_1_code 43 = .ok (.dup, 1) := by decide +kernel
theorem own_vs_d44 : decode prog_82_method_1_code 44 = .ok (.iload_n 1, 1) := by decide +kernel
theorem own_vs_d45 : decode prog_82_method_1_code 45 = .ok (.invokespecial 28, 3) := by decide +kernel
theorem own_vs_d48 : decode prog_82_method_1_code 48 = .ok (.aastore, 1) := by decide +kernel
theorem own_vs_d49 : decode prog_82_method_1_code 49 = .ok (.iinc 1 1, 3) := by decide +kernel
theorem own_vs_d52 : decode prog_82_method_1_code 52 = .ok (.goto (-24), 3) := by decide +kernel
theorem own_vs_d55 : decode prog_82_method_1_code 55 = .ok (.return_, 1) := by decide +kernel
theorem own_vs_pn : plainName "com/example/sluicegate/sluicegate/rule/ValueShards" = true := by first | (simp [plainName, overriddenIn]; done) | decide +kernel
theorem own_vs_ef (m : MethodId) (th : Addr) : entryFrame m #[(.ref th)] 2 = mkF m 0 #[rv th, .unset] [] := by first | (simp [entryFrame, mkF, argsToLocals, Value.category]; done) | rfl
def own_vs_Q (Z : State) (th : Addr) (h0 : Heap) (n0 : Nat) (v : Option Value) (h : Heap) (L : List Loc) : Prop := v = none ∧ Fr n0 L ∧ Keep h0 h [th]
set_option maxRecDepth 65536 in
set_option maxHeartbeats 40000000 in
theorem own_vs (l : Launch) (Z : State) (a0 : Array Value) (hw : ∀ d ∈ tables_1, d.before a0 Z = true) (ws : List Jvm.Cond) (th : Addr) (h0 : Heap) (n0 : Nat) (Z0 : n0 ≤ h0.size) (H9000 : Exa Z h0 th "com/example/sluicegate/sluicegate/rule/ValueShards") (H9001 : n0 ≤ th) (H9002 : Fld Z h0 th "com/example/sluicegate/sluicegate/rule/ValueShards" "wideLock" "Lcom/example/sluicegate/sluicegate/rule/SpinLock;" .null) (H9003 : Fld Z h0 th "com/example/sluicegate/sluicegate/rule/ValueShards" "shards" "[Lcom/example/sluicegate/sluicegate/rule/ValueShards$Shard;" .null) (H9004 : Sta Z h0 "com/example/sluicegate/sluicegate/rule/ValueShards" "SHARDS" "I" (.int (16 : Int32))) :
    MetFree l own_y9 (head1 (Jvm.Cond.code own_y9 prog_82_method_1_code 2 none :: ws) ({ frames := 4, cells := 51, slots := 770, locals := 54 } : Room)) (fun a U => a = #[(.ref th)] ∧ Z.Warmed39 U.vm ∧ U.heap = h0) (fun _ _ _ _ _ => True) (fun _ U o U' => ∃ v L, o = .returned v ∧ (own_vs_Q Z th h0 n0) v U'.heap L ∧ FrameEnd U o U' L ({ frames := 4, cells := 51, slots := 770, locals := 54 } : Room).cells ({ frames := 4, cells := 51, slots := 770, locals := 54 } : Room).slots) := by
  refine MetFree.of_bodySF (plainFor_of_name own_vs_pn) hisR ?_
  intro p e s m args below meth c s₁ Bd hml0 hP hK
  obtain ⟨rfl, hZ, hh⟩ := hP
  have hx := Bd.exec
  have hby := Bd.bytes
  have hml : c.maxLocals = 2 := hml0
  have hown : s.vm.findClass "com/example/sluicegate/sluicegate/rule/ValueShards" = some m.cls := findClass_of_methodNamed Bd.named
  have hnm := (name_of_methodNamed Bd.named Bd.method).1
  have hlk : meth.locks = false := Bd.notSynchronized
  have X0 : Stand p l e ({ frames := 4, cells := 51, slots := 770, locals := 54 } : Room) s m #[(.ref th)] below meth c s₁ [] 0 0 := Stand.of_body Bd
  have e0 : s₁.heap = h0 := by rw [← hh, Bd.state]; rfl
  have N0 := Fr.nil n0
  have w_38 := hw _ (List.mem_of_getElem? (l := tables_1) (i := 38) rfl)
  have w_39 := hw _ (List.mem_of_getElem? (l := tables_1) (i := 39) rfl)
  have w_91 := hw _ (List.mem_of_getElem? (l := tables_1) (i := 91) rfl)
  have w_96 := hw _ (List.mem_of_getElem? (l := tables_1) (i := 96) rfl)
  have w_97 := hw _ (List.mem_of_getElem? (l := tables_1) (i := 97) rfl)
  have w_98 := hw _ (List.mem_of_getElem? (l := tables_1) (i := 98) rfl)
  have w_99 := hw _ (List.mem_of_getElem? (l := tables_1) (i := 99) rfl)
  have w_100 := hw _ (List.mem_of_getElem? (l := tables_1) (i := 100) rfl)
  have w_101 := hw _ (List.mem_of_getElem? (l := tables_1) (i := 101) rfl)
  have w_102 := hw _ (List.mem_of_getElem? (l := tables_1) (i := 102) rfl)
  have w_106 := hw _ (List.mem_of_getElem? (l := tables_1) (i := 106) rfl)
  have w_107 := hw _ (List.mem_of_getElem? (l := tables_1) (i := 107) rfl)
  have w_108 := hw _ (List.mem_of_getElem? (l := tables_1) (i := 108) rfl)
  have w_109 := hw _ (List.mem_of_getElem? (l := tables_1) (i := 109) rfl)
  have w_111 := hw _ (List.mem_of_getElem? (l := tables_1) (i := 111) rfl)
  have w_112 := hw _ (List.mem_of_getElem? (l := tables_1) (i := 112) rfl)
  have w_113 := hw _ (List.mem_of_getElem? (l := tables_1) (i := 113) rfl)
  have w_114 := hw _ (List.mem_of_getElem? (l := tables_1) (i := 114) rfl)
  have w_115 := hw _ (List.mem_of_getElem? (l := tables_1) (i := 115) rfl)
  have w_116 := hw _ (List.mem_of_getElem? (l := tables_1) (i := 116) rfl)
  have w_117 := hw _ (List.mem_of_getElem? (l := tables_1) (i := 117) rfl)
  have w_118 := hw _ (List.mem_of_getElem? (l := tables_1) (i := 118) rfl)
  have w_119 := hw _ (List.mem_of_getElem? (l := tables_1) (i := 119) rfl)
  have w_122 := hw _ (List.mem_of_getElem? (l := tables_1) (i := 122) rfl)
  have w_140 := hw _ (List.mem_of_getElem? (l := tables_1) (i := 140) rfl)
  have w_142 := hw _ (List.mem_of_getElem? (l := tables_1) (i := 142) rfl)
  have w_143 := hw _ (List.mem_of_getElem? (l := tables_1) (i := 143) rfl)
  show own_G p.tables e below (fun o U' => ∃ v L, o = .returned v ∧ (own_vs_Q Z th h0 n0) v U'.heap L ∧ FrameEnd s o U' L ({ frames := 4, cells := 51, slots := 770, locals := 54 } : Room).cells ({ frames := 4, cells := 51, slots := 770, locals := 54 } : Room).slots) (s₁.setTop (entryFrame m #[(.ref th)] 2))
  refine own_go (B := s₁.setTop (mkF m 0 #[rv th, .unset] [])) (fun t k => castTop (own_vs_ef m th) k) ?_
  have K0 := Keep.refl h0 [th]
  refine own_go (B := (s₁.setTop (mkF m 1 #[rv th, .unset] [(.ref th)]))) (fun t k => XS.aloadN X0.here hx rfl (hb hby own_vs_d0) rfl rfl k) ?_
  obtain ⟨T1, X1, e1, st1⟩ := initO X0 hx hZ hown w_96 w_38 w_39 e0 (g := (mkF m 1 #[rv th, .unset] [(.ref th)])) rfl (by rw [hml]; rfl) rfl (hb hby own_vs_d1) (by decide) (W := 0) (by show 2 * 0 + _ ≤ _; exact own_b rfl) (by decide)
  refine own_go (B := (T1.setTop (mkF m 4 #[rv th, .unset] []))) st1 ?_
  refine own_go (B := (T1.setTop (mkF m 5 #[rv th, .unset] [(.ref th)]))) (fun t k => XS.aloadN X1.here hx rfl (hb hby own_vs_d4) rfl rfl k) ?_
  obtain ⟨T2, h2, X2, e2, E2, A2, D2, U2, st2⟩ := newO X1 hx hZ hown w_97 w_98 w_99 e1 (g := (mkF m 5 #[rv th, .unset] [(.ref th)])) rfl (hb hby own_vs_d5) (own_b rfl) (own_b rfl)
  obtain ⟨a2, ga2⟩ : ∃ z, z = h0.size := ⟨_, rfl⟩
  rw [← ga2] at A2 D2 U2 st2
  refine own_go (B := (T2.setTop (mkF m 8 #[rv th, .unset] [(.ref a2), (.ref th)]))) st2 ?_
  have Z3 : n0 ≤ h2.size := Nat.le_trans Z0 E2.1
  have K4 := Keep.ext K0 E2
  have F5 := Exa.ext E2 H9000
  have F6 := Fld.ext E2 H9002
  have F7 := Fld.ext E2 H9003
  have F8 := Sta.ext E2 H9004
  have gn2 : n0 ≤ a2 := Nat.le_trans Z0 (Nat.le_of_eq ga2.symm)
  have ne2_th : a2 ≠ th := fun q => absurd (H9000.lt) (by rw [← q, ga2]; exact Nat.lt_irrefl _)
  have F9 : Fld Z h2 a2 "com/example/sluicegate/sluicegate/rule/SpinLock" "words" "[J" .null := D2 (Or.inr w_106) (ty := (.array .long)) (by decide)
  refine own_go (B := (T2.setTop (mkF m 9 #[rv th, .unset] [(.ref a2), (.ref a2), (.ref th)]))) (fun t k => XS.dup X2.here hx rfl (hb hby own_vs_d8) rfl rfl k) ?_
  refine own_go (B := (T2.setTop (mkF m 10 #[rv th, .unset] [(.int (0 : Int32)), (.ref a2), (.ref a2), (.ref th)]))) (fun t k => own_iconst (v := (0 : Int32)) X2.here hx rfl (hb hby own_vs_d9) (by decide) k) ?_
  obtain ⟨_, _, ⟨T10, L10, k10, n10⟩, -, X10, ⟨Lc10, hQ10, l10, yy10, zz10⟩, st10⟩ := X2.specialBack hx (y := own_y6) rfl hown (mvT hZ w_100) (mvT hZ w_101) (mvT hZ w_102) (by decide) (backOf (W := 2) (own_sp1 l Z a0 hw [] a2 h2 n0 Z3 A2 gn2 F9) hZ w_102 w_99 (by decide) (by decide)) (g := (mkF m 10 #[rv th, .unset] [(.int (0 : Int32)), (.ref a2), (.ref a2), (.ref th)])) rfl (by rw [hml]; rfl) (Steps.refl _) (a := a2) (argsL := [(.int (0 : Int32))]) (rest := [(.ref a2), (.ref th)]) (lenOf own_pd5 rfl) rfl (by show 2 * 0 + _ ≤ _; exact own_b rfl) (hb hby own_vs_d10) (fun _ _ => ⟨rfl, e2, (own_b rfl : 1 + 1 ≤ _), (own_b rfl : 1 + 33 ≤ _)⟩)
  dsimp only [Pt.U, Pt.locs, Pt.cells, Pt.slots] at X10 l10 yy10 zz10 st10 hQ10
  obtain ⟨rfl, Nq10, K10⟩ := hQ10
  obtain ⟨L10, X10, N10⟩ := own_absC (K := 2) (K' := 34) X10 l10 yy10 zz10 N0 Nq10
  have F11 : n0 ≤ T10.heap.size := Nat.le_trans Z3 K10.1
  have F12 := Keep.trans K4 K10 (allS (Or.inr (Nat.le_trans K0.1 (Nat.le_of_eq ga2.symm))) all0)
  have F13 := Exa.keep F5 K10
  have F14 := Fld.keep F6 K10 (ninS (Ne.symm ne2_th) nin0)
  have F15 := Fld.keep F7 K10 (ninS (Ne.symm ne2_th) nin0)
  have F16 := own_sta_keep F8 K10 (nsS (Exa.nostat A2) ns0)
  have F17 := Exa.keep A2 K10
  refine own_tr (B := (T10.setTop (mkF m 13 #[rv th, .unset] [(.ref a2), (.ref th)]))) st10 ?_
  obtain ⟨T19, h19, X19, e19, W19, st19⟩ := putF X10 hx hZ hown (host := "") (Or.inl w_107) Via.refl rfl F14 F13 (Or.inr ⟨w_108, rfl, hnm⟩) w_91 (ty := (.object "com/example/sluicegate/sluicegate/rule/SpinLock")) (by decide) rfl rfl (g := (mkF m 13 #[rv th, .unset] [(.ref a2), (.ref th)])) rfl rfl (hb hby own_vs_d13)
  refine own_go (B := (T19.setTop (mkF m 16 #[rv th, .unset] []))) st19 ?_
  obtain ⟨L19, X19, N19⟩ := own_abs X19 (Fr.snoc X19 N10 H9001)
  have F20 : n0 ≤ h19.size := by rw [W19.size]; exact F11
  have F21 := Keep.wr F12 W19 (Or.inl (List.mem_of_getElem? (i := 0) rfl))
  have F22 := Exa.wr W19 F13
  have F23 := Fld.same W19 F14
  have F24 := Fld.other W19 F15 (Or.inr (slot_ne (t := (.array (.object "com/example/sluicegate/sluicegate/rule/ValueShards$Shard"))) (t' := (.object "com/example/sluicegate/sluicegate/rule/SpinLock")) (Or.inr w_114) (Or.inr w_108) (by decide) (by decide) (by decide)))
  have F25 := Sta.wr W19 F16
  have F26 := Exa.wr W19 F17
  refine own_go (B := (T19.setTop (mkF m 17 #[rv th, .unset] [(.ref th)]))) (fun t k => XS.aloadN X19.here hx rfl (hb hby own_vs_d16) rfl rfl k) ?_
  obtain ⟨T27, X27, e27, st27⟩ := getS X19 hx hZ hown (host := "") w_109 Via.refl e19 F25 (g := (mkF m 17 #[rv th, .unset] [(.ref th)])) rfl (hb hby own_vs_d17)
  refine own_go (B := (T27.setTop (mkF m 20 #[rv th, .unset] [(.int (16 : Int32)), (.ref th)]))) st27 ?_
  obtain ⟨T28, h28, c28, X28, e28, E28, A28, O28, st28⟩ := newR X27 hx hZ hown w_111 w_112 e27 (g := (mkF m 20 #[rv th, .unset] [(.int (16 : Int32)), (.ref th)])) rfl (hb hby own_vs_d20) rfl (by decide) (cap := 16) (by decide) (by decide) (own_b rfl) (own_b rfl)
  obtain ⟨a28, ga28⟩ : ∃ z, z = h19.size := ⟨_, rfl⟩
  rw [← ga28] at A28 st28
  refine own_go (B := (T28.setTop (mkF m 23 #[rv th, .unset] [(.ref a28), (.ref th)]))) st28 ?_
  have Z29 : n0 ≤ h28.size := Nat.le_trans F20 E28.1
  have K30 := Keep.ext F21 E28
  have F31 := Exa.ext E28 F22
  have F32 := Fld.ext E28 F24
  have F33 := Sta.ext E28 F25
  have gn28 : n0 ≤ a28 := Nat.le_trans F20 (Nat.le_of_eq ga28.symm)
  have ne28_th : a28 ≠ th := fun q => absurd (F22.lt) (by rw [← q, ga28]; exact Nat.lt_irrefl _)
  have V28 := own_Ao_new A28 O28
  obtain ⟨Ls, hLs, VL⟩ : ∃ L, L.length = 16 ∧ own_Ao Z h28 a28 "com/example/sluicegate/sluicegate/rule/ValueShards$Shard" L := ⟨_, (List.length_replicate).trans (by decide), V28⟩
  obtain ⟨T34, h34, X34, e34, W34, st34⟩ := putF X28 hx hZ hown (host := "") (Or.inl w_113) Via.refl e28 F32 F31 (Or.inr ⟨w_114, rfl, hnm⟩) w_91 (ty := (.array (.object "com/example/sluicegate/sluicegate/rule/ValueShards$Shard"))) (by decide) rfl rfl (g := (mkF m 23 #[rv th, .unset] [(.ref a28), (.ref th)])) rfl rfl (hb hby own_vs_d23)
  refine own_go (B := (T34.setTop (mkF m 26 #[rv th, .unset] []))) st34 ?_
  obtain ⟨L34, X34, N34⟩ := own_abs X34 (Fr.snoc X34 N19 H9001)
  have F35 : n0 ≤ h34.size := by rw [W34.size]; exact Z29
  have F36 := Keep.wr K30 W34 (Or.inl (List.mem_of_getElem? (i := 0) rfl))
  have F37 := Exa.wr W34 F31
  have F38 := Fld.same W34 F32
  have F39 := Sta.wr W34 F33
  have F40 := own_Ao_other VL W34 ne28_th
  refine own_go (B := (T34.setTop (mkF m 27 #[rv th, .unset] [(.int (0 : Int32))]))) (fun t k => own_iconst (v := (0 : Int32)) X34.here hx rfl (hb hby own_vs_d26) (by decide) k) ?_
  refine own_go (B := (T34.setTop (mkF m 28 #[rv th, iv (0 : Int32)] []))) (fun t k => XS.istoreN X34.here hx rfl (hb hby own_vs_d27) rfl (l' := #[rv th, iv (0 : Int32)]) rfl k) ?_
  refine own_go (B := (T34.setTop (mkF m 29 #[rv th, iv (0 : Int32)] [(.int (0 : Int32))]))) (fun t k => XS.iloadN X34.here hx rfl (hb hby own_vs_d28) rfl k) ?_
  obtain ⟨T41, X41, e41, st41⟩ := getS X34 hx hZ hown (host := "") w_109 Via.refl e34 F39 (g := (mkF m 29 #[rv th, iv (0 : Int32)] [(.int (0 : Int32))])) rfl (hb hby own_vs_d29)
  refine own_go (B := (T41.setTop (mkF m 32 #[rv th, iv (0 : Int32)] [(.int (16 : Int32)), (.int (0 : Int32))]))) st41 ?_
  have hc32 : (0 : Int32) < (16 : Int32) := (by decide)
  refine own_icmpN X41 hx (hb hby own_vs_d32) (pn := 35) rfl hc32 ?_
  refine own_go (B := (T41.setTop (mkF m 36 #[rv th, iv (0 : Int32)] [(.ref th)]))) (fun t k => XS.aloadN X41.here hx rfl (hb hby own_vs_d35) rfl rfl k) ?_
  obtain ⟨T42, X42, e42, st42⟩ := getF X41 hx hZ hown (host := "") (Or.inl w_113) Via.refl e41 F38 (g := (mkF m 36 #[rv th, iv (0 : Int32)] [(.ref th)])) rfl rfl (hb hby own_vs_d36)
  refine own_go (B := (T42.setTop (mkF m 39 #[rv th, iv (0 : Int32)] [(.ref a28)]))) st42 ?_
  refine own_go (B := (T42.setTop (mkF m 40 #[rv th, iv (0 : Int32)] [(.int (0 : Int32)), (.ref a28)]))) (fun t k => XS.iloadN X42.here hx rfl (hb hby own_vs_d39) rfl k) ?_
  obtain ⟨T43, h43, X43, e43, E43, A43, D43, U43, st43⟩ := newO X42 hx hZ hown w_111 w_115 w_116 e42 (g := (mkF m 40 #[rv th, iv (0 : Int32)] [(.int (0 : Int32)), (.ref a28)])) rfl (hb hby own_vs_d40) (own_b rfl) (own_b rfl)
  obtain ⟨a43, ga43⟩ : ∃ z, z = h34.size := ⟨_, rfl⟩
  rw [← ga43] at A43 D43 U43 st43
  refine own_go (B := (T43.setTop (mkF m 43 #[rv th, iv (0 : Int32)] [(.ref a43), (.int (0 : Int32)), (.ref a28)]))) st43 ?_
  have Z44 : n0 ≤ h43.size := Nat.le_trans F35 E43.1
  have K45 := Keep.ext F36 E43
  have F46 := Exa.ext E43 F37
  have F47 := Fld.ext E43 F38
  have F48 := Sta.ext E43 F39
  have V49 := own_Ao_ext F40 E43
  have gn43 : n0 ≤ a43 := Nat.le_trans F35 (Nat.le_of_eq ga43.symm)
  have ne43_th : a43 ≠ th := fun q => absurd (F37.lt) (by rw [← q, ga43]; exact Nat.lt_irrefl _)
  have ne43_a28 : a43 ≠ a28 := fun q => absurd (own_Ao_lt F40) (by rw [← q, ga43]; exact Nat.lt_irrefl _)
  have F50 : Fld Z h43 a43 "com/example/sluicegate/sluicegate/rule/SpinLock" "words" "[J" .null := D43 (Or.inr w_122) (ty := (.array .long)) (by decide)
  have F51 : Fld Z h43 a43 "com/example/sluicegate/sluicegate/rule/ValueShards$Shard" "kept" "Ljava/util/Map;" .null := D43 (Or.inl w_140) (ty := (.object "java/util/Map")) (by decide)
  have F52 : Fld Z h43 a43 "com/example/sluicegate/sluicegate/rule/ValueShards$Shard" "place" "I" (.int (0 : Int32)) := D43 (Or.inr w_142) (ty := .int) (by decide)
  refine own_go (B := (T43.setTop (mkF m 44 #[rv th, iv (0 : Int32)] [(.ref a43), (.ref a43), (.int (0 : Int32)), (.ref a28)]))) (fun t k => XS.dup X43.here hx rfl (hb hby own_vs_d43) rfl rfl k) ?_
  refine own_go (B := (T43.setTop (mkF m 45 #[rv th, iv (0 : Int32)] [(.int (0 : Int32)), (.ref a43), (.ref a43), (.int (0 : Int32)), (.ref a28)]))) (fun t k => XS.iloadN X43.here hx rfl (hb hby own_vs_d44) rfl k) ?_
  obtain ⟨_, _, ⟨T53, L53, k53, n53⟩, -, X53, ⟨Lc53, hQ53, l53, yy53, zz53⟩, st53⟩ := X43.specialBack hx (y := own_y8) rfl hown (mvT hZ w_117) (mvT hZ w_118) (mvT hZ w_119) (by decide) (backOf (W := 3) (own_sh l Z a0 hw [] a43 (0 : Int32) h43 n0 Z44 A43 gn43 F50 F51 F52) hZ w_119 w_116 (by decide) (by decide)) (g := (mkF m 45 #[rv th, iv (0 : Int32)] [(.int (0 : Int32)), (.ref a43), (.ref a43), (.int (0 : Int32)), (.ref a28)])) rfl (by rw [hml]; rfl) (Steps.refl _) (a := a43) (argsL := [(.int (0 : Int32))]) (rest := [(.ref a43), (.int (0 : Int32)), (.ref a28)]) (lenOf own_pd5 rfl) rfl (by show 2 * 0 + _ ≤ _; exact own_b rfl) (hb hby own_vs_d45) (fun _ _ => ⟨rfl, e43, (own_b rfl : 4 + 2 ≤ _), (own_b rfl : 54 + 41 ≤ _)⟩)
  dsimp only [Pt.U, Pt.locs, Pt.cells, Pt.slots] at X53 l53 yy53 zz53 st53 hQ53
  obtain ⟨rfl, Nq53, K53⟩ := hQ53
  obtain ⟨L53, X53, N53⟩ := own_absC (K := 6) (K' := 95) X53 l53 yy53 zz53 N34 Nq53
  have F54 : n0 ≤ T53.heap.size := Nat.le_trans Z44 K53.1
  have F55 := Keep.trans K45 K53 (allS (Or.inr (Nat.le_trans F36.1 (Nat.le_of_eq ga43.symm))) all0)
  have F56 := Exa.keep F46 K53
  have F57 := Fld.keep F47 K53 (ninS (Ne.symm ne43_th) nin0)
  have F58 := own_sta_keep F48 K53 (nsS (Exa.nostat A43) ns0)
  have F59 := own_Ao_keep V49 K53 (ninS (Ne.symm ne43_a28) nin0)
  have F60 := Exa.keep A43 K53
  refine own_tr (B := (T53.setTop (mkF m 48 #[rv th, iv (0 : Int32)] [(.ref a43), (.int (0 : Int32)), (.ref a28)]))) st53 ?_
  obtain ⟨T64, h64, X64, e64, W64, V64, st64⟩ := own_stR X53 hx hZ rfl F59 (Or.inr ⟨_, rfl, Ins.of_exa F60 w_143⟩) (by decide) (by rw [hLs]; decide) (g := (mkF m 48 #[rv th, iv (0 : Int32)] [(.ref a43), (.int (0 : Int32)), (.ref a28)])) rfl rfl (hb hby own_vs_d48)
  refine own_go (B := (T64.setTop (mkF m 49 #[rv th, iv (0 : Int32)] []))) st64 ?_
  obtain ⟨L64, X64, N64⟩ := own_abs X64 (Fr.snoc X64 N53 gn28)
  have F65 : n0 ≤ h64.size := by rw [W64.size]; exact F54
  have F66 := Keep.wr F55 W64 (Or.inr (Nat.le_trans F21.1 (Nat.le_of_eq ga28.symm)))
  have F67 := Exa.wr W64 F56
  have F68 := Fld.other W64 F57 (Or.inl (Ne.symm ne28_th))
  have F69 := Sta.wr W64 F58
  have F71 := Exa.wr W64 F60
  obtain ⟨Ls72, hLs72, VL72⟩ : ∃ L, L.length = 16 ∧ own_Ao Z h64 a28 "com/example/sluicegate/sluicegate/rule/ValueShards$Shard" L := ⟨_, (List.length_set).trans hLs, V64⟩
  refine own_go (B := (T64.setTop (mkF m 52 #[rv th, iv (1 : Int32)] []))) (fun t k => XS.iinc X64.here hx rfl (hb hby own_vs_d49) rfl (l' := #[rv th, iv (1 : Int32)]) rfl k) ?_
  refine own_go (B := (T64.setTop (mkF m 28 #[rv th, iv (1 : Int32)] []))) (fun t k => XS.goto X64.here hx rfl (pc0 := 52) (pc' := 28) rfl (hb hby own_vs_d52) (by decide) (by decide) k) ?_
  refine own_go (B := (T64.setTop (mkF m 29 #[rv th, iv (1 : Int32)] [(.int (1 : Int32))]))) (fun t k => XS.iloadN X64.here hx rfl (hb hby own_vs_d28) rfl k) ?_
  obtain ⟨T73, X73, e73, st73⟩ := getS X64 hx hZ hown (host := "") w_109 Via.refl e64 F69 (g := (mkF m 29 #[rv th, iv (1 : Int32)] [(.int (1 : Int32))])) rfl (hb hby own_vs_d29)
  refine own_go (B := (T73.setTop (mkF m 32 #[rv th, iv (1 : Int32)] [(.int (16 : Int32)), (.int (1 : Int32))]))) st73 ?_
  have hc32 : (1 : Int32) < (16 : Int32) := (by decide)
  refine own_icmpN X73 hx (hb hby own_vs_d32) (pn := 35) rfl hc32 ?_
  refine own_go (B := (T73.setTop (mkF m 36 #[rv th, iv (1 : Int32)] [(.ref th)]))) (fun t k => XS.aloadN X73.here hx rfl (hb hby own_vs_d35) rfl rfl k) ?_
  obtain ⟨T74, X74, e74, st74⟩ := getF X73 hx hZ hown (host := "") (Or.inl w_113) Via.refl e73 F68 (g := (mkF m 36 #[rv th, iv (1 : Int32)] [(.ref th)])) rfl rfl (hb hby own_vs_d36)
  refine own_go (B := (T74.setTop (mkF m 39 #[rv th, iv (1 : Int32)] [(.ref a28)]))) st74 ?_
  refine own_go (B := (T74.setTop (mkF m 40 #[rv th, iv (1 : Int32)] [(.int (1 : Int32)), (.ref a28)]))) (fun t k => XS.iloadN X74.here hx rfl (hb hby own_vs_d39) rfl k) ?_
  obtain ⟨T75, h75, X75, e75, E75, A75, D75, U75, st75⟩ := newO X74 hx hZ hown w_111 w_115 w_116 e74 (g := (mkF m 40 #[rv th, iv (1 : Int32)] [(.int (1 : Int32)), (.ref a28)])) rfl (hb hby own_vs_d40) (own_b rfl) (own_b rfl)
  obtain ⟨a75, ga75⟩ : ∃ z, z = h64.size := ⟨_, rfl⟩
  rw [← ga75] at A75 D75 U75 st75
  refine own_go (B := (T75.setTop (mkF m 43 #[rv th, iv (1 : Int32)] [(.ref a75), (.int (1 : Int32)), (.ref a28)]))) st75 ?_
  have Z76 : n0 ≤ h75.size := Nat.le_trans F65 E75.1
  have K77 := Keep.ext F66 E75
  have F78 := Exa.ext E75 F67
  have F79 := Fld.ext E75 F68
  have F80 := Sta.ext E75 F69
  have V81 := own_Ao_ext VL72 E75
  have gn75 : n0 ≤ a75 := Nat.le_trans F65 (Nat.le_of_eq ga75.symm)
  have ne75_th : a75 ≠ th := fun q => absurd (F67.lt) (by rw [← q, ga75]; exact Nat.lt_irrefl _)
  have ne75_a28 : a75 ≠ a28 := fun q => absurd (own_Ao_lt VL72) (by rw [← q, ga75]; exact Nat.lt_irrefl _)
  have F82 : Fld Z h75 a75 "com/example/sluicegate/sluicegate/rule/SpinLock" "words" "[J" .null := D75 (Or.inr w_122) (ty := (.array .long)) (by decide)
  have F83 : Fld Z h75 a75 "com/example/sluicegate/sluicegate/rule/ValueShards$Shard" "kept" "Ljava/util/Map;" .null := D75 (Or.inl w_140) (ty := (.object "java/util/Map")) (by decide)
  have F84 : Fld Z h75 a75 "com/example/sluicegate/sluicegate/rule/ValueShards$Shard" "place" "I" (.int (0 : Int32)) := D75 (Or.inr w_142) (ty := .int) (by decide)
  refine own_go (B := (T75.setTop (mkF m 44 #[rv th, iv (1 : Int32)] [(.ref a75), (.ref a75), (.int (1 : Int32)), (.ref a28)]))) (fun t k => XS.dup X75.here hx rfl (hb hby own_vs_d43) rfl rfl k) ?_
  refine own_go (B := (T75.setTop (mkF m 45 #[rv th, iv (1 : Int32)] [(.int (1 : Int32)), (.ref a75), (.ref a75), (.int (1 : Int32)), (.ref a28)]))) (fun t k => XS.iloadN X75.here hx rfl (hb hby own_vs_d44) rfl k) ?_
  obtain ⟨_, _, ⟨T85, L85, k85, n85⟩, -, X85, ⟨Lc85, hQ85, l85, yy85, zz85⟩, st85⟩ := X75.specialBack hx (y := own_y8) rfl hown (mvT hZ w_117) (mvT hZ w_118) (mvT hZ w_119) (by decide) (backOf (W := 3) (own_sh l Z a0 hw [] a75 (1 : Int32) h75 n0 Z76 A75 gn75 F82 F83 F84) hZ w_119 w_116 (by decide) (by decide)) (g := (mkF m 45 #[rv th, iv (1 : Int32)] [(.int (1 : Int32)), (.ref a75), (.ref a75), (.int (1 : Int32)), (.ref a28)])) rfl (by rw [hml]; rfl) (Steps.refl _) (a := a75) (argsL := [(.int (1 : Int32))]) (rest := [(.ref a75), (.int (1 : Int32)), (.ref a28)]) (lenOf own_pd5 rfl) rfl (by show 2 * 0 + _ ≤ _; exact own_b rfl) (hb hby own_vs_d45) (fun _ _ => ⟨rfl, e75, (own_b rfl : 7 + 2 ≤ _), (own_b rfl : 99 + 41 ≤ _)⟩)
  dsimp only [Pt.U, Pt.locs, Pt.cells, Pt.slots] at X85 l85 yy85 zz85 st85 hQ85
  obtain ⟨rfl, Nq85, K85⟩ := hQ85
  obtain ⟨L85, X85, N85⟩ := own_absC (K := 9) (K' := 140) X85 l85 yy85 zz85 N64 Nq85
  have F86 : n0 ≤ T85.heap.size := Nat.le_trans Z76 K85.1
  have F87 := Keep.trans K77 K85 (allS (Or.inr (Nat.le_trans F66.1 (Nat.le_of_eq ga75.symm))) all0)
  have F88 := Exa.keep F78 K85
  have F89 := Fld.keep F79 K85 (ninS (Ne.symm ne75_th) nin0)
  have F90 := own_sta_keep F80 K85 (nsS (Exa.nostat A75) ns0)
  have F91 := own_Ao_keep V81 K85 (ninS (Ne.symm ne75_a28) nin0)
  have F92 := Exa.keep A75 K85
  refine own_tr (B := (T85.setTop (mkF m 48 #[rv th, iv (1 : Int32)] [(.ref a75), (.int (1 : Int32)), (.ref a28)]))) st85 ?_
  obtain ⟨T96, h96, X96, e96, W96, V96, st96⟩ := own_stR X85 hx hZ rfl F91 (Or.inr ⟨_, rfl, Ins.of_exa F92 w_143⟩) (by decide) (by rw [hLs72]; decide) (g := (mkF m 48 #[rv th, iv (1 : Int32)] [(.ref a75), (.int (1 : Int32)), (.ref a28)])) rfl rfl (hb hby own_vs_d48)
  refine own_go (B := (T96.setTop (mkF m 49 #[rv th, iv (1 : Int32)] []))) st96 ?_
  obtain ⟨L96, X96, N96⟩ := own_abs X96 (Fr.snoc X96 N85 gn28)
  have F97 : n0 ≤ h96.size := by rw [W96.size]; exact F86
  have F98 := Keep.wr F87 W96 (Or.inr (Nat.le_trans F21.1 (Nat.le_of_eq ga28.symm)))
  have F99 := Exa.wr W96 F88
  have F100 := Fld.other W96 F89 (Or.inl (Ne.symm ne28_th))
  have F101 := Sta.wr W96 F90
  have F103 := Exa.wr W96 F92
  obtain ⟨Ls104, hLs104, VL104⟩ : ∃ L, L.length = 16 ∧ own_Ao Z h96 a28 "com/example/sluicegate/sluicegate/rule/ValueShards$Shard" L := ⟨_, (List.length_set).trans hLs72, V96⟩
  refine own_go (B := (T96.setTop (mkF m 52 #[rv th, iv (2 : Int32)] []))) (fun t k => XS.iinc X96.here hx rfl (hb hby own_vs_d49) rfl (l' := #[rv th, iv (2 : Int32)]) rfl k) ?_
  refine own_go (B := (T96.setTop (mkF m 28 #[rv th, iv (2 : Int32)] []))) (fun t k => XS.goto X96.here hx rfl (pc0 := 52) (pc' := 28) rfl (hb hby own_vs_d52) (by decide) (by decide) k) ?_
  refine own_go (B := (T96.setTop (mkF m 29 #[rv th, iv (2 : Int32)] [(.int (2 : Int32))]))) (fun t k => XS.iloadN X96.here hx rfl (hb hby own_vs_d28) rfl k) ?_
  obtain ⟨T105, X105, e105, st105⟩ := getS X96 hx hZ hown (host := "") w_109 Via.refl e96 F101 (g := (mkF m 29 #[rv th, iv (2 : Int32)] [(.int (2 : Int32))])) rfl (hb hby own_vs_d29)
  refine own_go (B := (T105.setTop (mkF m 32 #[rv th, iv (2 : Int32)] [(.int (16 : Int32)), (.int (2 : Int32))]))) st105 ?_
  have hc32 : (2 : Int32) < (16 : Int32) := (by decide)
  refine own_icmpN X105 hx (hb hby own_vs_d32) (pn := 35) rfl hc32 ?_
  refine own_go (B := (T105.setTop (mkF m 36 #[rv th, iv (2 : Int32)] [(.ref th)]))) (fun t k => XS.aloadN X105.here hx rfl (hb hby own_vs_d35) rfl rfl k) ?_
  obtain ⟨T106, X106, e106, st106⟩ := getF X105 hx hZ hown (host := "") (Or.inl w_113) Via.refl e105 F100 (g := (mkF m 36 #[rv th, iv (2 : Int32)] [(.ref th)])) rfl rfl (hb hby own_vs_d36)
  refine own_go (B := (T106.setTop (mkF m 39 #[rv th, iv (2 : Int32)] [(.ref a28)]))) st106 ?_
  refine own_go (B := (T106.setTop (mkF m 40 #[rv th, iv (2 : Int32)] [(.int (2 : Int32)), (.ref a28)]))) (fun t k => XS.iloadN X106.here hx rfl (hb hby own_vs_d39) rfl k) ?_
  obtain ⟨T107, h107, X107, e107, E107, A107, D107, U107, st107⟩ := newO X106 hx hZ hown w_111 w_115 w_116 e106 (g := (mkF m 40 #[rv th, iv (2 : Int32)] [(.int (2 : Int32)), (.ref a28)])) rfl (hb hby own_vs_d40) (own_b rfl) (own_b rfl)
  obtain ⟨a107, ga107⟩ : ∃ z, z = h96.size := ⟨_, rfl⟩
  rw [← ga107] at A107 D107 U107 st107
  refine own_go (B := (T107.setTop (mkF m 43 #[rv th, iv (2 : Int32)] [(.ref a107), (.int (2 : Int32)), (.ref a28)]))) st107 ?_
  have Z108 : n0 ≤ h107.size := Nat.le_trans F97 E107.1
  have K109 := Keep.ext F98 E107
  have F110 := Exa.ext E107 F99
  have F111 := Fld.ext E107 F100
  have F112 := Sta.ext E107 F101
  have V113 := own_Ao_ext VL104 E107
  have gn107 : n0 ≤ a107 := Nat.le_trans F97 (Nat.le_of_eq ga107.symm)
  have ne107_th : a107 ≠ th := fun q => absurd (F99.lt) (by rw [← q, ga107]; exact Nat.lt_irrefl _)
  have ne107_a28 : a107 ≠ a28 := fun q => absurd (own_Ao_lt VL104) (by rw [← q, ga107]; exact Nat.lt_irrefl _)
  have F114 : Fld Z h107 a107 "com/example/sluicegate/sluicegate/rule/SpinLock" "words" "[J" .null := D107 (Or.inr w_122) (ty := (.array .long)) (by decide)
  have F115 : Fld Z h107 a107 "com/example/sluicegate/sluicegate/rule/ValueShards$Shard" "kept" "Ljava/util/Map;" .null := D107 (Or.inl w_140) (ty := (.object "java/util/Map")) (by decide)
  have F116 : Fld Z h107 a107 "com/example/sluicegate/sluicegate/rule/ValueShards$Shard" "place" "I" (.int (0 : Int32)) := D107 (Or.inr w_142) (ty := .int) (by decide)
  refine own_go (B := (T107.setTop (mkF m 44 #[rv th, iv (2 : Int32)] [(.ref a107), (.ref a107), (.int (2 : Int32)), (.ref a28)]))) (fun t k => XS.dup X107.here hx rfl (hb hby own_vs_d43) rfl rfl k) ?_
  refine own_go (B := (T107.setTop (mkF m 45 #[rv th, iv (2 : Int32)] [(.int (2 : Int32)), (.ref a107), (.ref a107), (.int (2 : Int32)), (.ref a28)]))) (fun t k => XS.iloadN X107.here hx rfl (hb hby own_vs_d44) rfl k) ?_
  obtain ⟨_, _, ⟨T117, L117, k117, n117⟩, -, X117, ⟨Lc117, hQ117, l117, yy117, zz117⟩, st117⟩ := X107.specialBack hx (y := own_y8) rfl hown (mvT hZ w_117) (mvT hZ w_118) (mvT hZ w_119) (by decide) (backOf (W := 3) (own_sh l Z a0 hw [] a107 (2 : Int32) h107 n0 Z108 A107 gn107 F114 F115 F116) hZ w_119 w_116 (by decide) (by decide)) (g := (mkF m 45 #[rv th, iv (2 : Int32)] [(.int (2 : Int32)), (.ref a107), (.ref a107), (.int (2 : Int32)), (.ref a28)])) rfl (by rw [hml]; rfl) (Steps.refl _) (a := a107) (argsL := [(.int (2 : Int32))]) (rest := [(.ref a107), (.int (2 : Int32)), (.ref a28)]) (lenOf own_pd5 rfl) rfl (by show 2 * 0 + _ ≤ _; exact own_b rfl) (hb hby own_vs_d45) (fun _ _ => ⟨rfl, e107, (own_b rfl : 10 + 2 ≤ _), (own_b rfl : 144 + 41 ≤ _)⟩)
  dsimp only [Pt.U, Pt.locs, Pt.cells, Pt.slots] at X117 l117 yy117 zz117 st117 hQ117
  obtain ⟨rfl, Nq117, K117⟩ := hQ117
  obtain ⟨L117, X117, N117⟩ := own_absC (K := 12) (K' := 185) X117 l117 yy117 zz117 N96 Nq117
  have F118 : n0 ≤ T117.heap.size := Nat.le_trans Z108 K117.1
  have F119 := Keep.trans K109 K117 (allS (Or.inr (Nat.le_trans F98.1 (Nat.le_of_eq ga107.symm))) all0)
  have F120 := Exa.keep F110 K117
  have F121 := Fld.keep F111 K117 (ninS (Ne.symm ne107_th) nin0)
  have F122 := own_sta_keep F112 K117 (nsS (Exa.nostat A107) ns0)
  have F123 := own_Ao_keep V113 K117 (ninS (Ne.symm ne107_a28) nin0)
  have F124 := Exa.keep A107 K117
  refine own_tr (B := (T117.setTop (mkF m 48 #[rv th, iv (2 : Int32)] [(.ref a107), (.int (2 : Int32)), (.ref a28)]))) st117 ?_
  obtain ⟨T128, h128, X128, e128, W128, V128, st128⟩ := own_stR X117 hx hZ rfl F123 (Or.inr ⟨_, rfl, Ins.of_exa F124 w_143⟩) (by decide) (by rw [hLs104]; decide) (g := (mkF m 48 #[rv th, iv (2 : Int32)] [(.ref a107), (.int (2 : Int32)), (.ref a28)])) rfl rfl (hb hby own_vs_d48)
  refine own_go (B := (T128.setTop (mkF m 49 #[rv th, iv (2 : Int32)] []))) st128 ?_
  obtain ⟨L128, X128, N128⟩ := own_abs X128 (Fr.snoc X128 N117 gn28)
  have F129 : n0 ≤ h128.size := by rw [W128.size]; exact F118
  have F130 := Keep.wr F119 W128 (Or.inr (Nat.le_trans F21.1 (Nat.le_of_eq ga28.symm)))
  have F131 := Exa.wr W128 F120
  have F132 := Fld.other W128 F121 (Or.inl (Ne.symm ne28_th))
  have F133 := Sta.wr W128 F122
  have F135 := Exa.wr W128 F124
  obtain ⟨Ls136, hLs136, VL136⟩ : ∃ L, L.length = 16 ∧ own_Ao Z h128 a28 "com/example/sluicegate/sluicegate/rule/ValueShards$Shard" L := ⟨_, (List.length_set).trans hLs104, V128⟩
  refine own_go (B := (T128.setTop (mkF m 52 #[rv th, iv (3 : Int32)] []))) (fun t k => XS.iinc X128.here hx rfl (hb hby own_vs_d49) rfl (l' := #[rv th, iv (3 : Int32)]) rfl k) ?_
  refine own_go (B := (T128.setTop (mkF m 28 #[rv th, iv (3 : Int32)] []))) (fun t k => XS.goto X128.here hx rfl (pc0 := 52) (pc' := 28) rfl (hb hby own_vs_d52) (by decide) (by decide) k) ?_
  refine own_go (B := (T128.setTop (mkF m 29 #[rv th, iv (3 : Int32)] [(.int (3 : Int32))]))) (fun t k => XS.iloadN X128.here hx rfl (hb hby own_vs_d28) rfl k) ?_
  obtain ⟨T137, X137, e137, st137⟩ := getS X128 hx hZ hown (host := "") w_109 Via.refl e128 F133 (g := (mkF m 29 #[rv th, iv (3 : Int32)] [(.int (3 : Int32))])) rfl (hb hby own_vs_d29)
  refine own_go (B := (T137.setTop (mkF m 32 #[rv th, iv (3 : Int32)] [(.int (16 : Int32)), (.int (3 : Int32))]))) st137 ?_
  have hc32 : (3 : Int32) < (16 : Int32) := (by decide)
  refine own_icmpN X137 hx (hb hby own_vs_d32) (pn := 35) rfl hc32 ?_
  refine own_go (B := (T137.setTop (mkF m 36 #[rv th, iv (3 : Int32)] [(.ref th)]))) (fun t k => XS.aloadN X137.here hx rfl (hb hby own_vs_d35) rfl rfl k) ?_
  obtain ⟨T138, X138, e138, st138⟩ := getF X137 hx hZ hown (host := "") (Or.inl w_113) Via.refl e137 F132 (g := (mkF m 36 #[rv th, iv (3 : Int32)] [(.ref th)])) rfl rfl (hb hby own_vs_d36)
  refine own_go (B := (T138.setTop (mkF m 39 #[rv th, iv (3 : Int32)] [(.ref a28)]))) st138 ?_
  refine own_go (B := (T138.setTop (mkF m 40 #[rv th, iv (3 : Int32)] [(.int (3 : Int32)), (.ref a28)]))) (fun t k => XS.iloadN X138.here hx rfl (hb hby own_vs_d39) rfl k) ?_
  obtain ⟨T139, h139, X139, e139, E139, A139, D139, U139, st139⟩ := newO X138 hx hZ hown w_111 w_115 w_116 e138 (g := (mkF m 40 #[rv th, iv (3 : Int32)] [(.int (3 : Int32)), (.ref a28)])) rfl (hb hby own_vs_d40) (own_b rfl) (own_b rfl)
  obtain ⟨a139, ga139⟩ : ∃ z, z = h128.size := ⟨_, rfl⟩
  rw [← ga139] at A139 D139 U139 st139
  refine own_go (B := (T139.setTop (mkF m 43 #[rv th, iv (3 : Int32)] [(.ref a139), (.int (3 : Int32)), (.ref a28)]))) st139 ?_
  have Z140 : n0 ≤ h139.size := Nat.le_trans F129 E139.1
  have K141 := Keep.ext F130 E139
  have F142 := Exa.ext E139 F131
  have F143 := Fld.ext E139 F132
  have F144 := Sta.ext E139 F133
  have V145 := own_Ao_ext VL136 E139
  have gn139 : n0 ≤ a139 := Nat.le_trans F129 (Nat.le_of_eq ga139.symm)
  have ne139_th : a139 ≠ th := fun q => absurd (F131.lt) (by rw [← q, ga139]; exact Nat.lt_irrefl _)
  have ne139_a28 : a139 ≠ a28 := fun q => absurd (own_Ao_lt VL136) (by rw [← q, ga139]; exact Nat.lt_irrefl _)
  have F146 : Fld Z h139 a139 "com/example/sluicegate/sluicegate/rule/SpinLock" "words" "[J" .null := D139 (Or.inr w_122) (ty := (.array .long)) (by decide)
  have F147 : Fld Z h139 a139 "com/example/sluicegate/sluicegate/rule/ValueShards$Shard" "kept" "Ljava/util/Map;" .null := D139 (Or.inl w_140) (ty := (.object "java/util/Map")) (by decide)
  have F148 : Fld Z h139 a139 "com/example/sluicegate/sluicegate/rule/ValueShards$Shard" "place" "I" (.int (0 : Int32)) := D139 (Or.inr w_142) (ty := .int) (by decide)
  refine own_go (B := (T139.setTop (mkF m 44 #[rv th, iv (3 : Int32)] [(.ref a139), (.ref a139), (.int (3 : Int32)), (.ref a28)]))) (fun t k => XS.dup X139.here hx rfl (hb hby own_vs_d43) rfl rfl k) ?_
  refine own_go (B := (T139.setTop (mkF m 45 #[rv th, iv (3 : Int32)] [(.int (3 : Int32)), (.ref a139), (.ref a139), (.int (3 : Int32)), (.ref a28)]))) (fun t k => XS.iloadN X139.here hx rfl (hb hby own_vs_d44) rfl k) ?_
  obtain ⟨_, _, ⟨T149, L149, k149, n149⟩, -, X149, ⟨Lc149, hQ149, l149, yy149, zz149⟩, st149⟩ := X139.specialBack hx (y := own_y8) rfl hown (mvT hZ w_117) (mvT hZ w_118) (mvT hZ w_119) (by decide) (backOf (W := 3) (own_sh l Z a0 hw [] a139 (3 : Int32) h139 n0 Z140 A139 gn139 F146 F147 F148) hZ w_119 w_116 (by decide) (by decide)) (g := (mkF m 45 #[rv th, iv (3 : Int32)] [(.int (3 : Int32)), (.ref a139), (.ref a139), (.int (3 : Int32)), (.ref a28)])) rfl (by rw [hml]; rfl) (Steps.refl _) (a := a139) (argsL := [(.int (3 : Int32))]) (rest := [(.ref a139), (.int (3 : Int32)), (.ref a28)]) (lenOf own_pd5 rfl) rfl (by show 2 * 0 + _ ≤ _; exact own_b rfl) (hb hby own_vs_d45) (fun _ _ => ⟨rfl, e139, (own_b rfl : 13 + 2 ≤ _), (own_b rfl : 189 + 41 ≤ _)⟩)
  dsimp only [Pt.U, Pt.locs, Pt.cells, Pt.slots] at X149 l149 yy149 zz149 st149 hQ149
  obtain ⟨rfl, Nq149, K149⟩ := hQ149
  obtain ⟨L149, X149, N149⟩ := own_absC (K := 15) (K' := 230) X149 l149 yy149 zz149 N128 Nq149
  have F150 : n0 ≤ T149.heap.size := Nat.le_trans Z140 K149.1
  have F151 := Keep.trans K141 K149 (allS (Or.inr (Nat.le_trans F130.1 (Nat.le_of_eq ga139.symm))) all0)
  have F152 := Exa.keep F142 K149
  have F153 := Fld.keep F143 K149 (ninS (Ne.symm ne139_th) nin0)
  have F154 := own_sta_keep F144 K149 (nsS (Exa.nostat A139) ns0)
  have F155 := own_Ao_keep V145 K149 (ninS (Ne.symm ne139_a28) nin0)
  have F156 := Exa.keep A139 K149
  refine own_tr (B := (T149.setTop (mkF m 48 #[rv th, iv (3 : Int32)] [(.ref a139), (.int (3 : Int32)), (.ref a28)]))) st149 ?_
  obtain ⟨T160, h160, X160, e160, W160, V160, st160⟩ := own_stR X149 hx hZ rfl F155 (Or.inr ⟨_, rfl, Ins.of_exa F156 w_143⟩) (by decide) (by rw [hLs136]; decide) (g := (mkF m 48 #[rv th, iv (3 : Int32)] [(.ref a139), (.int (3 : Int32)), (.ref a28)])) rfl rfl (hb hby own_vs_d48)
  refine own_go (B := (T160.setTop (mkF m 49 #[rv th, iv (3 : Int32)] []))) st160 ?_
  obtain ⟨L160, X160, N160⟩ := own_abs X160 (Fr.snoc X160 N149 gn28)
  have F161 : n0 ≤ h160.size := by rw [W160.size]; exact F150
  have F162 := Keep.wr F151 W160 (Or.inr (Nat.le_trans F21.1 (Nat.le_of_eq ga28.symm)))
  have F163 := Exa.wr W160 F152
  have F164 := Fld.other W160 F153 (Or.inl (Ne.symm ne28_th))
  have F165 := Sta.wr W160 F154
  have F167 := Exa.wr W160 F156
  obtain ⟨Ls168, hLs168, VL168⟩ : ∃ L, L.length = 16 ∧ own_Ao Z h160 a28 "com/example/sluicegate/sluicegate/rule/ValueShards$Shard" L := ⟨_, (List.length_set).trans hLs136, V160⟩
  refine own_go (B := (T160.setTop (mkF m 52 #[rv th, iv (4 : Int32)] []))) (fun t k => XS.iinc X160.here hx rfl (hb hby own_vs_d49) rfl (l' := #[rv th, iv (4 : Int32)]) rfl k) ?_
  refine own_go (B := (T160.setTop (mkF m 28 #[rv th, iv (4 : Int32)] []))) (fun t k => XS.goto X160.here hx rfl (pc0 := 52) (pc' := 28) rfl (hb hby own_vs_d52) (by decide) (by decide) k) ?_
  refine own_go (B := (T160.setTop (mkF m 29 #[rv th, iv (4 : Int32)] [(.int (4 : Int32))]))) (fun t k => XS.iloadN X160.here hx rfl (hb hby own_vs_d28) rfl k) ?_
  obtain ⟨T169, X169, e169, st169⟩ := getS X160 hx hZ hown (host := "") w_109 Via.refl e160 F165 (g := (mkF m 29 #[rv th, iv (4 : Int32)] [(.int (4 : Int32))])) rfl (hb hby own_vs_d29)
  refine own_go (B := (T169.setTop (mkF m 32 #[rv th, iv (4 : Int32)] [(.int (16 : Int32)), (.int (4 : Int32))]))) st169 ?_
  have hc32 : (4 : Int32) < (16 : Int32) := (by decide)
  refine own_icmpN X169 hx (hb hby own_vs_d32) (pn := 35) rfl hc32 ?_
  refine own_go (B := (T169.setTop (mkF m 36 #[rv th, iv (4 : Int32)] [(.ref th)]))) (fun t k => XS.aloadN X169.here hx rfl (hb hby own_vs_d35) rfl rfl k) ?_
  obtain ⟨T170, X170, e170, st170⟩ := getF X169 hx hZ hown (host := "") (Or.inl w_113) Via.refl e169 F164 (g := (mkF m 36 #[rv th, iv (4 : Int32)] [(.ref th)])) rfl rfl (hb hby own_vs_d36)
  refine own_go (B := (T170.setTop (mkF m 39 #[rv th, iv (4 : Int32)] [(.ref a28)]))) st170 ?_
  refine own_go (B := (T170.setTop (mkF m 40 #[rv th, iv (4 : Int32)] [(.int (4 : Int32)), (.ref a28)]))) (fun t k => XS.iloadN X170.here hx rfl (hb hby own_vs_d39) rfl k) ?_
  obtain ⟨T171, h171, X171, e171, E171, A171, D171, U171, st171⟩ := newO X170 hx hZ hown w_111 w_115 w_116 e170 (g := (mkF m 40 #[rv th, iv (4 : Int32)] [(.int (4 : Int32)), (.ref a28)])) rfl (hb hby own_vs_d40) (own_b rfl) (own_b rfl)
  obtain ⟨a171, ga171⟩ : ∃ z, z = h160.size := ⟨_, rfl⟩
  rw [← ga171] at A171 D171 U171 st171
  refine own_go (B := (T171.setTop (mkF m 43 #[rv th, iv (4 : Int32)] [(.ref a171), (.int (4 : Int32)), (.ref a28)]))) st171 ?_
  have Z172 : n0 ≤ h171.size := Nat.le_trans F161 E171.1
  have K173 := Keep.ext F162 E171
  have F174 := Exa.ext E171 F163
  have F175 := Fld.ext E171 F164
  have F176 := Sta.ext E171 F165
  have V177 := own_Ao_ext VL168 E171
  have gn171 : n0 ≤ a171 := Nat.le_trans F161 (Nat.le_of_eq ga171.symm)
  have ne171_th : a171 ≠ th := fun q => absurd (F163.lt) (by rw [← q, ga171]; exact Nat.lt_irrefl _)
  have ne171_a28 : a171 ≠ a28 := fun q => absurd (own_Ao_lt VL168) (by rw [← q, ga171]; exact Nat.lt_irrefl _)
  have F178 : Fld Z h171 a171 "com/example/sluicegate/sluicegate/rule/SpinLock" "words" "[J" .null := D171 (Or.inr w_122) (ty := (.array .long)) (by decide)
  have F179 : Fld Z h171 a171 "com/example/sluicegate/sluicegate/rule/ValueShards$Shard" "kept" "Ljava/util/Map;" .null := D171 (Or.inl w_140) (ty := (.object "java/util/Map")) (by decide)
  have F180 : Fld Z h171 a171 "com/example/sluicegate/sluicegate/rule/ValueShards$Shard" "place" "I" (.int (0 : Int32)) := D171 (Or.inr w_142) (ty := .int) (by decide)
  refine own_go (B := (T171.setTop (mkF m 44 #[rv th, iv (4 : Int32)] [(.ref a171), (.ref a171), (.int (4 : Int32)), (.ref a28)]))) (fun t k => XS.dup X171.here hx rfl (hb hby own_vs_d43) rfl rfl k) ?_
  refine own_go (B := (T171.setTop (mkF m 45 #[rv th, iv (4 : Int32)] [(.int (4 : Int32)), (.ref a171), (.ref a171), (.int (4 : Int32)), (.ref a28)]))) (fun t k => XS.iloadN X171.here hx rfl (hb hby own_vs_d44) rfl k) ?_
  obtain ⟨_, _, ⟨T181, L181, k181, n181⟩, -, X181, ⟨Lc181, hQ181, l181, yy181, zz181⟩, st181⟩ := X171.specialBack hx (y := own_y8) rfl hown (mvT hZ w_117) (mvT hZ w_118) (mvT hZ w_119) (by decide) (backOf (W := 3) (own_sh l Z a0 hw [] a171 (4 : Int32) h171 n0 Z172 A171 gn171 F178 F179 F180) hZ w_119 w_116 (by decide) (by decide)) (g := (mkF m 45 #[rv th, iv (4 : Int32)] [(.int (4 : Int32)), (.ref a171), (.ref a171), (.int (4 : Int32)), (.ref a28)])) rfl (by rw [hml]; rfl) (Steps.refl _) (a := a171) (argsL := [(.int (4 : Int32))]) (rest := [(.ref a171), (.int (4 : Int32)), (.ref a28)]) (lenOf own_pd5 rfl) rfl (by show 2 * 0 + _ ≤ _; exact own_b rfl) (hb hby own_vs_d45) (fun _ _ => ⟨rfl, e171, (own_b rfl : 16 + 2 ≤ _), (own_b rfl : 234 + 41 ≤ _)⟩)
  dsimp only [Pt.U, Pt.locs, Pt.cells, Pt.slots] at X181 l181 yy181 zz181 st181 hQ181
  obtain ⟨rfl, Nq181, K181⟩ := hQ181
  obtain ⟨L181, X181, N181⟩ := own_absC (K := 18) (K' := 275) X181 l181 yy181 zz181 N160 Nq181
  have F182 : n0 ≤ T181.heap.size := Nat.le_trans Z172 K181.1
  have F183 := Keep.trans K173 K181 (allS (Or.inr (Nat.le_trans F162.1 (Nat.le_of_eq ga171.symm))) all0)
  have F184 := Exa.keep F174 K181
  have F185 := Fld.keep F175 K181 (ninS (Ne.symm ne171_th) nin0)
  have F186 := own_sta_keep F176 K181 (nsS (Exa.nostat A171) ns0)
  have F187 := own_Ao_keep V177 K181 (ninS (Ne.symm ne171_a28) nin0)
  have F188 := Exa.keep A171 K181
  refine own_tr (B := (T181.setTop (mkF m 48 #[rv th, iv (4 : Int32)] [(.ref a171), (.int (4 : Int32)), (.ref a28)]))) st181 ?_
  obtain ⟨T192, h192, X192, e192, W192, V192, st192⟩ := own_stR X181 hx hZ rfl F187 (Or.inr ⟨_, rfl, Ins.of_exa F188 w_143⟩) (by decide) (by rw [hLs168]; decide) (g := (mkF m 48 #[rv th, iv (4 : Int32)] [(.ref a171), (.int (4 : Int32)), (.ref a28)])) rfl rfl (hb hby own_vs_d48)
  refine own_go (B := (T192.setTop (mkF m 49 #[rv th, iv (4 : Int32)] []))) st192 ?_
  obtain ⟨L192, X192, N192⟩ := own_abs X192 (Fr.snoc X192 N181 gn28)
  have F193 : n0 ≤ h192.size := by rw [W192.size]; exact F182
  have F194 := Keep.wr F183 W192 (Or.inr (Nat.le_trans F21.1 (Nat.le_of_eq ga28.symm)))
  have F195 := Exa.wr W192 F184
  have F196 := Fld.other W192 F185 (Or.inl (Ne.symm ne28_th))
  have F197 := Sta.wr W192 F186
  have F199 := Exa.wr W192 F188
  obtain ⟨Ls200, hLs200, VL200⟩ : ∃ L, L.length = 16 ∧ own_Ao Z h192 a28 "com/example/sluicegate/sluicegate/rule/ValueShards$Shard" L := ⟨_, (List.length_set).trans hLs168, V192⟩
  refine own_go (B := (T192.setTop (mkF m 52 #[rv th, iv (5 : Int32)] []))) (fun t k => XS.iinc X192.here hx rfl (hb hby own_vs_d49) rfl (l' := #[rv th, iv (5 : Int32)]) rfl k) ?_
  refine own_go (B := (T192.setTop (mkF m 28 #[rv th, iv (5 : Int32)] []))) (fun t k => XS.goto X192.here hx rfl (pc0 := 52) (pc' := 28) rfl (hb hby own_vs_d52) (by decide) (by decide) k) ?_
  refine own_go (B := (T192.setTop (mkF m 29 #[rv th, iv (5 : Int32)] [(.int (5 : Int32))]))) (fun t k => XS.iloadN X192.here hx rfl (hb hby own_vs_d28) rfl k) ?_
  obtain ⟨T201, X201, e201, st201⟩ := getS X192 hx hZ hown (host := "") w_109 Via.refl e192 F197 (g := (mkF m 29 #[rv th, iv (5 : Int32)] [(.int (5 : Int32))])) rfl (hb hby own_vs_d29)
  refine own_go (B := (T201.setTop (mkF m 32 #[rv th, iv (5 : Int32)] [(.int (16 : Int32)), (.int (5 : Int32))]))) st201 ?_
  have hc32 : (5 : Int32) < (16 : Int32) := (by decide)
  refine own_icmpN X201 hx (hb hby own_vs_d32) (pn := 35) rfl hc32 ?_
  refine own_go (B := (T201.setTop (mkF m 36 #[rv th, iv (5 : Int32)] [(.ref th)]))) (fun t k => XS.aloadN X201.here hx rfl (hb hby own_vs_d35) rfl rfl k) ?_
  obtain ⟨T202, X202, e202, st202⟩ := getF X201 hx hZ hown (host := "") (Or.inl w_113) Via.refl e201 F196 (g := (mkF m 36 #[rv th, iv (5 : Int32)] [(.ref th)])) rfl rfl (hb hby own_vs_d36)
  refine own_go (B := (T202.setTop (mkF m 39 #[rv th, iv (5 : Int32)] [(.ref a28)]))) st202 ?_
  refine own_go (B := (T202.setTop (mkF m 40 #[rv th, iv (5 : Int32)] [(.int (5 : Int32)), (.ref a28)]))) (fun t k => XS.iloadN X202.here hx rfl (hb hby own_vs_d39) rfl k) ?_
  obtain ⟨T203, h203, X203, e203, E203, A203, D203, U203, st203⟩ := newO X202 hx hZ hown w_111 w_115 w_116 e202 (g := (mkF m 40 #[rv th, iv (5 : Int32)] [(.int (5 : Int32)), (.ref a28)])) rfl (hb hby own_vs_d40) (own_b rfl) (own_b rfl)
  obtain ⟨a203, ga203⟩ : ∃ z, z = h192.size := ⟨_, rfl⟩
  rw [← ga203] at A203 D203 U203 st203
  refine own_go (B := (T203.setTop (mkF m 43 #[rv th, iv (5 : Int32)] [(.ref a203), (.int (5 : Int32)), (.ref a28)]))) st203 ?_
  have Z204 : n0 ≤ h203.size := Nat.le_trans F193 E203.1
  have K205 := Keep.ext F194 E203
  have F206 := Exa.ext E203 F195
  have F207 := Fld.ext E203 F196
  have F208 := Sta.ext E203 F197
  have V209 := own_Ao_ext VL200 E203
  have gn203 : n0 ≤ a203 := Nat.le_trans F193 (Nat.le_of_eq ga203.symm)
  have ne203_th : a203 ≠ th := fun q => absurd (F195.lt) (by rw [← q, ga203]; exact Nat.lt_irrefl _)
  have ne203_a28 : a203 ≠ a28 := fun q => absurd (own_Ao_lt VL200) (by rw [← q, ga203]; exact Nat.lt_irrefl _)
  have F210 : Fld Z h203 a203 "com/example/sluicegate/sluicegate/rule/SpinLock" "words" "[J" .null := D203 (Or.inr w_122) (ty := (.array .long)) (by decide)
  have F211 : Fld Z h203 a203 "com/example/sluicegate/sluicegate/rule/ValueShards$Shard" "kept" "Ljava/util/Map;" .null := D203 (Or.inl w_140) (ty := (.object "java/util/Map")) (by decide)
  have F212 : Fld Z h203 a203 "com/example/sluicegate/sluicegate/rule/ValueShards$Shard" "place" "I" (.int (0 : Int32)) := D203 (Or.inr w_142) (ty := .int) (by decide)
  refine own_go (B := (T203.setTop (mkF m 44 #[rv th, iv (5 : Int32)] [(.ref a203), (.ref a203), (.int (5 : Int32)), (.ref a28)]))) (fun t k => XS.dup X203.here hx rfl (hb hby own_vs_d43) rfl rfl k) ?_
  refine own_go (B := (T203.setTop (mkF m 45 #[rv th, iv (5 : Int32)] [(.int (5 : Int32)), (.ref a203), (.ref a203), (.int (5 : Int32)), (.ref a28)]))) (fun t k => XS.iloadN X203.here hx rfl (hb hby own_vs_d44) rfl k) ?_
  obtain ⟨_, _, ⟨T213, L213, k213, n213⟩, -, X213, ⟨Lc213, hQ213, l213, yy213, zz213⟩, st213⟩ := X203.specialBack hx (y := own_y8) rfl hown (mvT hZ w_117) (mvT hZ w_118) (mvT hZ w_119) (by decide) (backOf (W := 3) (own_sh l Z a0 hw [] a203 (5 : Int32) h203 n0 Z204 A203 gn203 F210 F211 F212) hZ w_119 w_116 (by decide) (by decide)) (g := (mkF m 45 #[rv th, iv (5 : Int32)] [(.int (5 : Int32)), (.ref a203), (.ref a203), (.int (5 : Int32)), (.ref a28)])) rfl (by rw [hml]; rfl) (Steps.refl _) (a := a203) (argsL := [(.int (5 : Int32))]) (rest := [(.ref a203), (.int (5 : Int32)), (.ref a28)]) (lenOf own_pd5 rfl) rfl (by show 2 * 0 + _ ≤ _; exact own_b rfl) (hb hby own_vs_d45) (fun _ _ => ⟨rfl, e203, (own_b rfl : 19 + 2 ≤ _), (own_b rfl : 279 + 41 ≤ _)⟩)
  dsimp only [Pt.U, Pt.locs, Pt.cells, Pt.slots] at X213 l213 yy213 zz213 st213 hQ213
  obtain ⟨rfl, Nq213, K213⟩ := hQ213
  obtain ⟨L213, X213, N213⟩ := own_absC (K := 21) (K' := 320) X213 l213 yy213 zz213 N192 Nq213
  have F214 : n0 ≤ T213.heap.size := Nat.le_trans Z204 K213.1
  have F215 := Keep.trans K205 K213 (allS (Or.inr (Nat.le_trans F194.1 (Nat.le_of_eq ga203.symm))) all0)
  have F216 := Exa.keep F206 K213
  have F217 := Fld.keep F207 K213 (ninS (Ne.symm ne203_th) nin0)
  have F218 := own_sta_keep F208 K213 (nsS (Exa.nostat A203) ns0)
  have F219 := own_Ao_keep V209 K213 (ninS (Ne.symm ne203_a28) nin0)
  have F220 := Exa.keep A203 K213
  refine own_tr (B := (T213.setTop (mkF m 48 #[rv th, iv (5 : Int32)] [(.ref a203), (.int (5 : Int32)), (.ref a28)]))) st213 ?_
  obtain ⟨T224, h224, X224, e224, W224, V224, st224⟩ := own_stR X213 hx hZ rfl F219 (Or.inr ⟨_, rfl, Ins.of_exa F220 w_143⟩) (by decide) (by rw [hLs200]; decide) (g := (mkF m 48 #[rv th, iv (5 : Int32)] [(.ref a203), (.int (5 : Int32)), (.ref a28)])) rfl rfl (hb hby own_vs_d48)
  refine own_go (B := (T224.setTop (mkF m 49 #[rv th, iv (5 : Int32)] []))) st224 ?_
  obtain ⟨L224, X224, N224⟩ := own_abs X224 (Fr.snoc X224 N213 gn28)
  have F225 : n0 ≤ h224.size := by rw [W224.size]; exact F214
  have F226 := Keep.wr F215 W224 (Or.inr (Nat.le_trans F21.1 (Nat.le_of_eq ga28.symm)))
  have F227 := Exa.wr W224 F216
  have F228 := Fld.other W224 F217 (Or.inl (Ne.symm ne28_th))
  have F229 := Sta.wr W224 F218
  have F231 := Exa.wr W224 F220
  obtain ⟨Ls232, hLs232, VL232⟩ : ∃ L, L.length = 16 ∧ own_Ao Z h224 a28 "com/example/sluicegate/sluicegate/rule/ValueShards$Shard" L := ⟨_, (List.length_set).trans hLs200, V224⟩
  refine own_go (B := (T224.setTop (mkF m 52 #[rv th, iv (6 : Int32)] []))) (fun t k => XS.iinc X224.here hx rfl (hb hby own_vs_d49) rfl (l' := #[rv th, iv (6 : Int32)]) rfl k) ?_
  refine own_go (B := (T224.setTop (mkF m 28 #[rv th, iv (6 : Int32)] []))) (fun t k => XS.goto X224.here hx rfl (pc0 := 52) (pc' := 28) rfl (hb hby own_vs_d52) (by decide) (by decide) k) ?_
  refine own_go (B := (T224.setTop (mkF m 29 #[rv th, iv (6 : Int32)] [(.int (6 : Int32))]))) (fun t k => XS.iloadN X224.here hx rfl (hb hby own_vs_d28) rfl k) ?_
  obtain ⟨T233, X233, e233, st233⟩ := getS X224 hx hZ hown (host := "") w_109 Via.refl e224 F229 (g := (mkF m 29 #[rv th, iv (6 : Int32)] [(.int (6 : Int32))])) rfl (hb hby own_vs_d29)
  refine own_go (B := (T233.setTop (mkF m 32 #[rv th, iv (6 : Int32)] [(.int (16 : Int32)), (.int (6 : Int32))]))) st233 ?_
  have hc32 : (6 : Int32) < (16 : Int32) := (by decide)
  refine own_icmpN X233 hx (hb hby own_vs_d32) (pn := 35) rfl hc32 ?_
  refine own_go (B := (T233.setTop (mkF m 36 #[rv th, iv (6 : Int32)] [(.ref th)]))) (fun t k => XS.aloadN X233.here hx rfl (hb hby own_vs_d35) rfl rfl k) ?_
  obtain ⟨T234, X234, e234, st234⟩ := getF X233 hx hZ hown (host := "") (Or.inl w_113) Via.refl e233 F228 (g := (mkF m 36 #[rv th, iv (6 : Int32)] [(.ref th)])) rfl rfl (hb hby own_vs_d36)
  refine own_go (B := (T234.setTop (mkF m 39 #[rv th, iv (6 : Int32)] [(.ref a28)]))) st234 ?_
  refine own_go (B := (T234.setTop (mkF m 40 #[rv th, iv (6 : Int32)] [(.int (6 : Int32)), (.ref a28)]))) (fun t k => XS.iloadN X234.here hx rfl (hb hby own_vs_d39) rfl k) ?_
  obtain ⟨T235, h235, X235, e235, E235, A235, D235, U235, st235⟩ := newO X234 hx hZ hown w_111 w_115 w_116 e234 (g := (mkF m 40 #[rv th, iv (6 : Int32)] [(.int (6 : Int32)), (.ref a28)])) rfl (hb hby own_vs_d40) (own_b rfl) (own_b rfl)
  obtain ⟨a235, ga235⟩ : ∃ z, z = h224.size := ⟨_, rfl⟩
  rw [← ga235] at A235 D235 U235 st235
  refine own_go (B := (T235.setTop (mkF m 43 #[rv th, iv (6 : Int32)] [(.ref a235), (.int (6 : Int32)), (.ref a28)]))) st235 ?_
  have Z236 : n0 ≤ h235.size := Nat.le_trans F225 E235.1
  have K237 := Keep.ext F226 E235
  have F238 := Exa.ext E235 F227
  have F239 := Fld.ext E235 F228
  have F240 := Sta.ext E235 F229
  have V241 := own_Ao_ext VL232 E235
  have gn235 : n0 ≤ a235 := Nat.le_trans F225 (Nat.le_of_eq ga235.symm)
  have ne235_th : a235 ≠ th := fun q => absurd (F227.lt) (by rw [← q, ga235]; exact Nat.lt_irrefl _)
  have ne235_a28 : a235 ≠ a28 := fun q => absurd (own_Ao_lt VL232) (by rw [← q, ga235]; exact Nat.lt_irrefl _)
  have F242 : Fld Z h235 a235 "com/example/sluicegate/sluicegate/rule/SpinLock" "words" "[J" .null := D235 (Or.inr w_122) (ty := (.array .long)) (by decide)
  have F243 : Fld Z h235 a235 "com/example/sluicegate/sluicegate/rule/ValueShards$Shard" "kept" "Ljava/util/Map;" .null := D235 (Or.inl w_140) (ty := (.object "java/util/Map")) (by decide)
  have F244 : Fld Z h235 a235 "com/example/sluicegate/sluicegate/rule/ValueShards$Shard" "place" "I" (.int (0 : Int32)) := D235 (Or.inr w_142) (ty := .int) (by decide)
  refine own_go (B := (T235.setTop (mkF m 44 #[rv th, iv (6 : Int32)] [(.ref a235), (.ref a235), (.int (6 : Int32)), (.ref a28)]))) (fun t k => XS.dup X235.here hx rfl (hb hby own_vs_d43) rfl rfl k) ?_
  refine own_go (B := (T235.setTop (mkF m 45 #[rv th, iv (6 : Int32)] [(.int (6 : Int32)), (.ref a235), (.ref a235), (.int (6 : Int32)), (.ref a28)]))) (fun t k => XS.iloadN X235.here hx rfl (hb hby own_vs_d44) rfl k) ?_
  obtain ⟨_, _, ⟨T245, L245, k245, n245⟩, -, X245, ⟨Lc245, hQ245, l245, yy245, zz245⟩, st245⟩ := X235.specialBack hx (y := own_y8) rfl hown (mvT hZ w_117) (mvT hZ w_118) (mvT hZ w_119) (by decide) (backOf (W := 3) (own_sh l Z a0 hw [] a235 (6 : Int32) h235 n0 Z236 A235 gn235 F242 F243 F244) hZ w_119 w_116 (by decide) (by decide)) (g := (mkF m 45 #[rv th, iv (6 : Int32)] [(.int (6 : Int32)), (.ref a235), (.ref a235), (.int (6 : Int32)), (.ref a28)])) rfl (by rw [hml]; rfl) (Steps.refl _) (a := a235) (argsL := [(.int (6 : Int32))]) (rest := [(.ref a235), (.int (6 : Int32)), (.ref a28)]) (lenOf own_pd5 rfl) rfl (by show 2 * 0 + _ ≤ _; exact own_b rfl) (hb hby own_vs_d45) (fun _ _ => ⟨rfl, e235, (own_b rfl : 22 + 2 ≤ _), (own_b rfl : 324 + 41 ≤ _)⟩)
  dsimp only [Pt.U, Pt.locs, Pt.cells, Pt.slots] at X245 l245 yy245 zz245 st245 hQ245
  obtain ⟨rfl, Nq245, K245⟩ := hQ245
  obtain ⟨L245, X245, N245⟩ := own_absC (K := 24) (K' := 365) X245 l245 yy245 zz245 N224 Nq245
  have F246 : n0 ≤ T245.heap.size := Nat.le_trans Z236 K245.1
  have F247 := Keep.trans K237 K245 (allS (Or.inr (Nat.le_trans F226.1 (Nat.le_of_eq ga235.symm))) all0)
  have F248 := Exa.keep F238 K245
  have F249 := Fld.keep F239 K245 (ninS (Ne.symm ne235_th) nin0)
  have F250 := own_sta_keep F240 K245 (nsS (Exa.nostat A235) ns0)
  have F251 := own_Ao_keep V241 K245 (ninS (Ne.symm ne235_a28) nin0)
  have F252 := Exa.keep A235 K245
  refine own_tr (B := (T245.setTop (mkF m 48 #[rv th, iv (6 : Int32)] [(.ref a235), (.int (6 : Int32)), (.ref a28)]))) st245 ?_
  obtain ⟨T256, h256, X256, e256, W256, V256, st256⟩ := own_stR X245 hx hZ rfl F251 (Or.inr ⟨_, rfl, Ins.of_exa F252 w_143⟩) (by decide) (by rw [hLs232]; decide) (g := (mkF m 48 #[rv th, iv (6 : Int32)] [(.ref a235), (.int (6 : Int32)), (.ref a28)])) rfl rfl (hb hby own_vs_d48)
  refine own_go (B := (T256.setTop (mkF m 49 #[rv th, iv (6 : Int32)] []))) st256 ?_
  obtain ⟨L256, X256, N256⟩ := own_abs X256 (Fr.snoc X256 N245 gn28)
  have F257 : n0 ≤ h256.size := by rw [W256.size]; exact F246
  have F258 := Keep.wr F247 W256 (Or.inr (Nat.le_trans F21.1 (Nat.le_of_eq ga28.symm)))
  have F259 := Exa.wr W256 F248
  have F260 := Fld.other W256 F249 (Or.inl (Ne.symm ne28_th))
  have F261 := Sta.wr W256 F250
  have F263 := Exa.wr W256 F252
  obtain ⟨Ls264, hLs264, VL264⟩ : ∃ L, L.length = 16 ∧ own_Ao Z h256 a28 "com/example/sluicegate/sluicegate/rule/ValueShards$Shard" L := ⟨_, (List.length_set).trans hLs232, V256⟩
  refine own_go (B := (T256.setTop (mkF m 52 #[rv th, iv (7 : Int32)] []))) (fun t k => XS.iinc X256.here hx rfl (hb hby own_vs_d49) rfl (l' := #[rv th, iv (7 : Int32)]) rfl k) ?_
  refine own_go (B := (T256.setTop (mkF m 28 #[rv th, iv (7 : Int32)] []))) (fun t k => XS.goto X256.here hx rfl (pc0 := 52) (pc' := 28) rfl (hb hby own_vs_d52) (by decide) (by decide) k) ?_
  refine own_go (B := (T256.setTop (mkF m 29 #[rv th, iv (7 : Int32)] [(.int (7 : Int32))]))) (fun t k => XS.iloadN X256.here hx rfl (hb hby own_vs_d28) rfl k) ?_
  obtain ⟨T265, X265, e265, st265⟩ := getS X256 hx hZ hown (host := "") w_109 Via.refl e256 F261 (g := (mkF m 29 #[rv th, iv (7 : Int32)] [(.int (7 : Int32))])) rfl (hb hby own_vs_d29)
  refine own_go (B := (T265.setTop (mkF m 32 #[rv th, iv (7 : Int32)] [(.int (16 : Int32)), (.int (7 : Int32))]))) st265 ?_
  have hc32 : (7 : Int32) < (16 : Int32) := (by decide)
  refine own_icmpN X265 hx (hb hby own_vs_d32) (pn := 35) rfl hc32 ?_
  refine own_go (B := (T265.setTop (mkF m 36 #[rv th, iv (7 : Int32)] [(.ref th)]))) (fun t k => XS.aloadN X265.here hx rfl (hb hby own_vs_d35) rfl rfl k) ?_
  obtain ⟨T266, X266, e266, st266⟩ := getF X265 hx hZ hown (host := "") (Or.inl w_113) Via.refl e265 F260 (g := (mkF m 36 #[rv th, iv (7 : Int32)] [(.ref th)])) rfl rfl (hb hby own_vs_d36)
  refine own_go (B := (T266.setTop (mkF m 39 #[rv th, iv (7 : Int32)] [(.ref a28)]))) st266 ?_
  refine own_go (B := (T266.setTop (mkF m 40 #[rv th, iv (7 : Int32)] [(.int (7 : Int32)), (.ref a28)]))) (fun t k => XS.iloadN X266.here hx rfl (hb hby own_vs_d39) rfl k) ?_
  obtain ⟨T267, h267, X267, e267, E267, A267, D267, U267, st267⟩ := newO X266 hx hZ hown w_111 w_115 w_116 e266 (g := (mkF m 40 #[rv th, iv (7 : Int32)] [(.int (7 : Int32)), (.ref a28)])) rfl (hb hby own_vs_d40) (own_b rfl) (own_b rfl)
  obtain ⟨a267, ga267⟩ : ∃ z, z = h256.size := ⟨_, rfl⟩
  rw [← ga267] at A267 D267 U267 st267
  refine own_go (B := (T267.setTop (mkF m 43 #[rv th, iv (7 : Int32)] [(.ref a267), (.int (7 : Int32)), (.ref a28)]))) st267 ?_
  have Z268 : n0 ≤ h267.size := Nat.le_trans F257 E267.1
  have K269 := Keep.ext F258 E267
  have F270 := Exa.ext E267 F259
  have F271 := Fld.ext E267 F260
  have F272 := Sta.ext E267 F261
  have V273 := own_Ao_ext VL264 E267
  have gn267 : n0 ≤ a267 := Nat.le_trans F257 (Nat.le_of_eq ga267.symm)
  have ne267_th : a267 ≠ th := fun q => absurd (F259.lt) (by rw [← q, ga267]; exact Nat.lt_irrefl _)
  have ne267_a28 : a267 ≠ a28 := fun q => absurd (own_Ao_lt VL264) (by rw [← q, ga267]; exact Nat.lt_irrefl _)
  have F274 : Fld Z h267 a267 "com/example/sluicegate/sluicegate/rule/SpinLock" "words" "[J" .null := D267 (Or.inr w_122) (ty := (.array .long)) (by decide)
  have F275 : Fld Z h267 a267 "com/example/sluicegate/sluicegate/rule/ValueShards$Shard" "kept" "Ljava/util/Map;" .null := D267 (Or.inl w_140) (ty := (.object "java/util/Map")) (by decide)
  have F276 : Fld Z h267 a267 "com/example/sluicegate/sluicegate/rule/ValueShards$Shard" "place" "I" (.int (0 : Int32)) := D267 (Or.inr w_142) (ty := .int) (by decide)
  refine own_go (B := (T267.setTop (mkF m 44 #[rv th, iv (7 : Int32)] [(.ref a267), (.ref a267), (.int (7 : Int32)), (.ref a28)]))) (fun t k => XS.dup X267.here hx rfl (hb hby own_vs_d43) rfl rfl k) ?_
  refine own_go (B := (T267.setTop (mkF m 45 #[rv th, iv (7 : Int32)] [(.int (7 : Int32)), (.ref a267), (.ref a267), (.int (7 : Int32)), (.ref a28)]))) (fun t k => XS.iloadN X267.here hx rfl (hb hby own_vs_d44) rfl k) ?_
  obtain ⟨_, _, ⟨T277, L277, k277, n277⟩, -, X277, ⟨Lc277, hQ277, l277, yy277, zz277⟩, st277⟩ := X267.specialBack hx (y := own_y8) rfl hown (mvT hZ w_117) (mvT hZ w_118) (mvT hZ w_119) (by decide) (backOf (W := 3) (own_sh l Z a0 hw [] a267 (7 : Int32) h267 n0 Z268 A267 gn267 F274 F275 F276) hZ w_119 w_116 (by decide) (by decide)) (g := (mkF m 45 #[rv th, iv (7 : Int32)] [(.int (7 : Int32)), (.ref a267), (.ref a267), (.int (7 : Int32)), (.ref a28)])) rfl (by rw [hml]; rfl) (Steps.refl _) (a := a267) (argsL := [(.int (7 : Int32))]) (rest := [(.ref a267), (.int (7 : Int32)), (.ref a28)]) (lenOf own_pd5 rfl) rfl (by show 2 * 0 + _ ≤ _; exact own_b rfl) (hb hby own_vs_d45) (fun _ _ => ⟨rfl, e267, (own_b rfl : 25 + 2 ≤ _), (own_b rfl : 369 + 41 ≤ _)⟩)
  dsimp only [Pt.U, Pt.locs, Pt.cells, Pt.slots] at X277 l277 yy277 zz277 st277 hQ277
  obtain ⟨rfl, Nq277, K277⟩ := hQ277
  obtain ⟨L277, X277, N277⟩ := own_absC (K := 27) (K' := 410) X277 l277 yy277 zz277 N256 Nq277
  have F278 : n0 ≤ T277.heap.size := Nat.le_trans Z268 K277.1
  have F279 := Keep.trans K269 K277 (allS (Or.inr (Nat.le_trans F258.1 (Nat.le_of_eq ga267.symm))) all0)
  have F280 := Exa.keep F270 K277
  have F281 := Fld.keep F271 K277 (ninS (Ne.symm ne267_th) nin0)
  have F282 := own_sta_keep F272 K277 (nsS (Exa.nostat A267) ns0)
  have F283 := own_Ao_keep V273 K277 (ninS (Ne.symm ne267_a28) nin0)
  have F284 := Exa.keep A267 K277
  refine own_tr (B := (T277.setTop (mkF m 48 #[rv th, iv (7 : Int32)] [(.ref a267), (.int (7 : Int32)), (.ref a28)]))) st277 ?_
  obtain ⟨T288, h288, X288, e288, W288, V288, st288⟩ := own_stR X277 hx hZ rfl F283 (Or.inr ⟨_, rfl, Ins.of_exa F284 w_143⟩) (by decide) (by rw [hLs264]; decide) (g := (mkF m 48 #[rv th, iv (7 : Int32)] [(.ref a267), (.int (7 : Int32)), (.ref a28)])) rfl rfl (hb hby own_vs_d48)
  refine own_go (B := (T288.setTop (mkF m 49 #[rv th, iv (7 : Int32)] []))) st288 ?_
  obtain ⟨L288, X288, N288⟩ := own_abs X288 (Fr.snoc X288 N277 gn28)
  have F289 : n0 ≤ h288.size := by rw [W288.size]; exact F278
  have F290 := Keep.wr F279 W288 (Or.inr (Nat.le_trans F21.1 (Nat.le_of_eq ga28.symm)))
  have F291 := Exa.wr W288 F280
  have F292 := Fld.other W288 F281 (Or.inl (Ne.symm ne28_th))
  have F293 := Sta.wr W288 F282
  have F295 := Exa.wr W288 F284
  obtain ⟨Ls296, hLs296, VL296⟩ : ∃ L, L.length = 16 ∧ own_Ao Z h288 a28 "com/example/sluicegate/sluicegate/rule/ValueShards$Shard" L := ⟨_, (List.length_set).trans hLs264, V288⟩
  refine own_go (B := (T288.setTop (mkF m 52 #[rv th, iv (8 : Int32)] []))) (fun t k => XS.iinc X288.here hx rfl (hb hby own_vs_d49) rfl (l' := #[rv th, iv (8 : Int32)]) rfl k) ?_
  refine own_go (B := (T288.setTop (mkF m 28 #[rv th, iv (8 : Int32)] []))) (fun t k => XS.goto X288.here hx rfl (pc0 := 52) (pc' := 28) rfl (hb hby own_vs_d52) (by decide) (by decide) k) ?_
  refine own_go (B := (T288.setTop (mkF m 29 #[rv th, iv (8 : Int32)] [(.int (8 : Int32))]))) (fun t k => XS.iloadN X288.here hx rfl (hb hby own_vs_d28) rfl k) ?_
  obtain ⟨T297, X297, e297, st297⟩ := getS X288 hx hZ hown (host := "") w_109 Via.refl e288 F293 (g := (mkF m 29 #[rv th, iv (8 : Int32)] [(.int (8 : Int32))])) rfl (hb hby own_vs_d29)
  refine own_go (B := (T297.setTop (mkF m 32 #[rv th, iv (8 : Int32)] [(.int (16 : Int32)), (.int (8 : Int32))]))) st297 ?_
  have hc32 : (8 : Int32) < (16 : Int32) := (by decide)
  refine own_icmpN X297 hx (hb hby own_vs_d32) (pn := 35) rfl hc32 ?_
  refine own_go (B := (T297.setTop (mkF m 36 #[rv th, iv (8 : Int32)] [(.ref th)]))) (fun t k => XS.aloadN X297.here hx rfl (hb hby own_vs_d35) rfl rfl k) ?_
  obtain ⟨T298, X298, e298, st298⟩ := getF X297 hx hZ hown (host := "") (Or.inl w_113) Via.refl e297 F292 (g := (mkF m 36 #[rv th, iv (8 : Int32)] [(.ref th)])) rfl rfl (hb hby own_vs_d36)
  refine own_go (B := (T298.setTop (mkF m 39 #[rv th, iv (8 : Int32)] [(.ref a28)]))) st298 ?_
  refine own_go (B := (T298.setTop (mkF m 40 #[rv th, iv (8 : Int32)] [(.int (8 : Int32)), (.ref a28)]))) (fun t k => XS.iloadN X298.here hx rfl (hb hby own_vs_d39) rfl k) ?_
  obtain ⟨T299, h299, X299, e299, E299, A299, D299, U299, st299⟩ := newO X298 hx hZ hown w_111 w_115 w_116 e298 (g := (mkF m 40 #[rv th, iv (8 : Int32)] [(.int (8 : Int32)), (.ref a28)])) rfl (hb hby own_vs_d40) (own_b rfl) (own_b rfl)
  obtain ⟨a299, ga299⟩ : ∃ z, z = h288.size := ⟨_, rfl⟩
  rw [← ga299] at A299 D299 U299 st299
  refine own_go (B := (T299.setTop (mkF m 43 #[rv th, iv (8 : Int32)] [(.ref a299), (.int (8 : Int32)), (.ref a28)]))) st299 ?_
  have Z300 : n0 ≤ h299.size := Nat.le_trans F289 E299.1
  have K301 := Keep.ext F290 E299
  have F302 := Exa.ext E299 F291
  have F303 := Fld.ext E299 F292
  have F304 := Sta.ext E299 F293
  have V305 := own_Ao_ext VL296 E299
  have gn299 : n0 ≤ a299 := Nat.le_trans F289 (Nat.le_of_eq ga299.symm)
  have ne299_th : a299 ≠ th := fun q => absurd (F291.lt) (by rw [← q, ga299]; exact Nat.lt_irrefl _)
  have ne299_a28 : a299 ≠ a28 := fun q => absurd (own_Ao_lt VL296) (by rw [← q, ga299]; exact Nat.lt_irrefl _)
  have F306 : Fld Z h299 a299 "com/example/sluicegate/sluicegate/rule/SpinLock" "words" "[J" .null := D299 (Or.inr w_122) (ty := (.array .long)) (by decide)
  have F307 : Fld Z h299 a299 "com/example/sluicegate/sluicegate/rule/ValueShards$Shard" "kept" "Ljava/util/Map;" .null := D299 (Or.inl w_140) (ty := (.object "java/util/Map")) (by decide)
  have F308 : Fld Z h299 a299 "com/example/sluicegate/sluicegate/rule/ValueShards$Shard" "place" "I" (.int (0 : Int32)) := D299 (Or.inr w_142) (ty := .int) (by decide)
  refine own_go (B := (T299.setTop (mkF m 44 #[rv th, iv (8 : Int32)] [(.ref a299), (.ref a299), (.int (8 : Int32)), (.ref a28)]))) (fun t k => XS.dup X299.here hx rfl (hb hby own_vs_d43) rfl rfl k) ?_
  refine own_go (B := (T299.setTop (mkF m 45 #[rv th, iv (8 : Int32)] [(.int (8 : Int32)), (.ref a299), (.ref a299), (.int (8 : Int32)), (.ref a28)]))) (fun t k => XS.iloadN X299.here hx rfl (hb hby own_vs_d44) rfl k) ?_
  obtain ⟨_, _, ⟨T309, L309, k309, n309⟩, -, X309, ⟨Lc309, hQ309, l309, yy309, zz309⟩, st309⟩ := X299.specialBack hx (y := own_y8) rfl hown (mvT hZ w_117) (mvT hZ w_118) (mvT hZ w_119) (by decide) (backOf (W := 3) (own_sh l Z a0 hw [] a299 (8 : Int32) h299 n0 Z300 A299 gn299 F306 F307 F308) hZ w_119 w_116 (by decide) (by decide)) (g := (mkF m 45 #[rv th, iv (8 : Int32)] [(.int (8 : Int32)), (.ref a299), (.ref a299), (.int (8 : Int32)), (.ref a28)])) rfl (by rw [hml]; rfl) (Steps.refl _) (a := a299) (argsL := [(.int (8 : Int32))]) (rest := [(.ref a299), (.int (8 : Int32)), (.ref a28)]) (lenOf own_pd5 rfl) rfl (by show 2 * 0 + _ ≤ _; exact own_b rfl) (hb hby own_vs_d45) (fun _ _ => ⟨rfl, e299, (own_b rfl : 28 + 2 ≤ _), (own_b rfl : 414 + 41 ≤ _)⟩)
  dsimp only [Pt.U, Pt.locs, Pt.cells, Pt.slots] at X309 l309 yy309 zz309 st309 hQ309
  obtain ⟨rfl, Nq309, K309⟩ := hQ309
  obtain ⟨L309, X309, N309⟩ := own_absC (K := 30) (K' := 455) X309 l309 yy309 zz309 N288 Nq309
  have F310 : n0 ≤ T309.heap.size := Nat.le_trans Z300 K309.1
  have F311 := Keep.trans K301 K309 (allS (Or.inr (Nat.le_trans F290.1 (Nat.le_of_eq ga299.symm))) all0)
  have F312 := Exa.keep F302 K309
  have F313 := Fld.keep F303 K309 (ninS (Ne.symm ne299_th) nin0)
  have F314 := own_sta_keep F304 K309 (nsS (Exa.nostat A299) ns0)
  have F315 := own_Ao_keep V305 K309 (ninS (Ne.symm ne299_a28) nin0)
  have F316 := Exa.keep A299 K309
  refine own_tr (B := (T309.setTop (mkF m 48 #[rv th, iv (8 : Int32)] [(.ref a299), (.int (8 : Int32)), (.ref a28)]))) st309 ?_
  obtain ⟨T320, h320, X320, e320, W320, V320, st320⟩ := own_stR X309 hx hZ rfl F315 (Or.inr ⟨_, rfl, Ins.of_exa F316 w_143⟩) (by decide) (by rw [hLs296]; decide) (g := (mkF m 48 #[rv th, iv (8 : Int32)] [(.ref a299), (.int (8 : Int32)), (.ref a28)])) rfl rfl (hb hby own_vs_d48)
  refine own_go (B := (T320.setTop (mkF m 49 #[rv th, iv (8 : Int32)] []))) st320 ?_
  obtain ⟨L320, X320, N320⟩ := own_abs X320 (Fr.snoc X320 N309 gn28)
  have F321 : n0 ≤ h320.size := by rw [W320.size]; exact F310
  have F322 := Keep.wr F311 W320 (Or.inr (Nat.le_trans F21.1 (Nat.le_of_eq ga28.symm)))
  have F323 := Exa.wr W320 F312
  have F324 := Fld.other W320 F313 (Or.inl (Ne.symm ne28_th))
  have F325 := Sta.wr W320 F314
  have F327 := Exa.wr W320 F316
  obtain ⟨Ls328, hLs328, VL328⟩ : ∃ L, L.length = 16 ∧ own_Ao Z h320 a28 "com/example/sluicegate/sluicegate/rule/ValueShards$Shard" L := ⟨_, (List.length_set).trans hLs296, V320⟩
  refine own_go (B := (T320.setTop (mkF m 52 #[rv th, iv (9 : Int32)] []))) (fun t k => XS.iinc X320.here hx rfl (hb hby own_vs_d49) rfl (l' := #[rv th, iv (9 : Int32)]) rfl k) ?_
  refine own_go (B := (T320.setTop (mkF m 28 #[rv th, iv (9 : Int32)] []))) (fun t k => XS.goto X320.here hx rfl (pc0 := 52) (pc' := 28) rfl (hb hby own_vs_d52) (by decide) (by decide) k) ?_
  refine own_go (B := (T320.setTop (mkF m 29 #[rv th, iv (9 : Int32)] [(.int (9 : Int32))]))) (fun t k => XS.iloadN X320.here hx rfl (hb hby own_vs_d28) rfl k) ?_
  obtain ⟨T329, X329, e329, st329⟩ := getS X320 hx hZ hown (host := "") w_109 Via.refl e320 F325 (g := (mkF m 29 #[rv th, iv (9 : Int32)] [(.int (9 : Int32))])) rfl (hb hby own_vs_d29)
  refine own_go (B := (T329.setTop (mkF m 32 #[rv th, iv (9 : Int32)] [(.int (16 : Int32)), (.int (9 : Int32))]))) st329 ?_
  have hc32 : (9 : Int32) < (16 : Int32) := (by decide)
  refine own_icmpN X329 hx (hb hby own_vs_d32) (pn := 35) rfl hc32 ?_
  refine own_go (B := (T329.setTop (mkF m 36 #[rv th, iv (9 : Int32)] [(.ref th)]))) (fun t k => XS.aloadN X329.here hx rfl (hb hby own_vs_d35) rfl rfl k) ?_
  obtain ⟨T330, X330, e330, st330⟩ := getF X329 hx hZ hown (host := "") (Or.inl w_113) Via.refl e329 F324 (g := (mkF m 36 #[rv th, iv (9 : Int32)] [(.ref th)])) rfl rfl (hb hby own_vs_d36)
  refine own_go (B := (T330.setTop (mkF m 39 #[rv th, iv (9 : Int32)] [(.ref a28)]))) st330 ?_
  refine own_go (B := (T330.setTop (mkF m 40 #[rv th, iv (9 : Int32)] [(.int (9 : Int32)), (.ref a28)]))) (fun t k => XS.iloadN X330.here hx rfl (hb hby own_vs_d39) rfl k) ?_
  obtain ⟨T331, h331, X331, e331, E331, A331, D331, U331, st331⟩ := newO X330 hx hZ hown w_111 w_115 w_116 e330 (g := (mkF m 40 #[rv th, iv (9 : Int32)] [(.int (9 : Int32)), (.ref a28)])) rfl (hb hby own_vs_d40) (own_b rfl) (own_b rfl)
  obtain ⟨a331, ga331⟩ : ∃ z, z = h320.size := ⟨_, rfl⟩
  rw [← ga331] at A331 D331 U331 st331
  refine own_go (B := (T331.setTop (mkF m 43 #[rv th, iv (9 : Int32)] [(.ref a331), (.int (9 : Int32)), (.ref a28)]))) st331 ?_
  have Z332 : n0 ≤ h331.size := Nat.le_trans F321 E331.1
  have K333 := Keep.ext F322 E331
  have F334 := Exa.ext E331 F323
  have F335 := Fld.ext E331 F324
  have F336 := Sta.ext E331 F325
  have V337 := own_Ao_ext VL328 E331
  have gn331 : n0 ≤ a331 := Nat.le_trans F321 (Nat.le_of_eq ga331.symm)
  have ne331_th : a331 ≠ th := fun q => absurd (F323.lt) (by rw [← q, ga331]; exact Nat.lt_irrefl _)
  have ne331_a28 : a331 ≠ a28 := fun q => absurd (own_Ao_lt VL328) (by rw [← q, ga331]; exact Nat.lt_irrefl _)
  have F338 : Fld Z h331 a331 "com/example/sluicegate/sluicegate/rule/SpinLock" "words" "[J" .null := D331 (Or.inr w_122) (ty := (.array .long)) (by decide)
  have F339 : Fld Z h331 a331 "com/example/sluicegate/sluicegate/rule/ValueShards$Shard" "kept" "Ljava/util/Map;" .null := D331 (Or.inl w_140) (ty := (.object "java/util/Map")) (by decide)
  have F340 : Fld Z h331 a331 "com/example/sluicegate/sluicegate/rule/ValueShards$Shard" "place" "I" (.int (0 : Int32)) := D331 (Or.inr w_142) (ty := .int) (by decide)
  refine own_go (B := (T331.setTop (mkF m 44 #[rv th, iv (9 : Int32)] [(.ref a331), (.ref a331), (.int (9 : Int32)), (.ref a28)]))) (fun t k => XS.dup X331.here hx rfl (hb hby own_vs_d43) rfl rfl k) ?_
  refine own_go (B := (T331.setTop (mkF m 45 #[rv th, iv (9 : Int32)] [(.int (9 : Int32)), (.ref a331), (.ref a331), (.int (9 : Int32)), (.ref a28)]))) (fun t k => XS.iloadN X331.here hx rfl (hb hby own_vs_d44) rfl k) ?_
  obtain ⟨_, _, ⟨T341, L341, k341, n341⟩, -, X341, ⟨Lc341, hQ341, l341, yy341, zz341⟩, st341⟩ := X331.specialBack hx (y := own_y8) rfl hown (mvT hZ w_117) (mvT hZ w_118) (mvT hZ w_119) (by decide) (backOf (W := 3) (own_sh l Z a0 hw [] a331 (9 : Int32) h331 n0 Z332 A331 gn331 F338 F339 F340) hZ w_119 w_116 (by decide) (by decide)) (g := (mkF m 45 #[rv th, iv (9 : Int32)] [(.int (9 : Int32)), (.ref a331), (.ref a331), (.int (9 : Int32)), (.ref a28)])) rfl (by rw [hml]; rfl) (Steps.refl _) (a := a331) (argsL := [(.int (9 : Int32))]) (rest := [(.ref a331), (.int (9 : Int32)), (.ref a28)]) (lenOf own_pd5 rfl) rfl (by show 2 * 0 + _ ≤ _; exact own_b rfl) (hb hby own_vs_d45) (fun _ _ => ⟨rfl, e331, (own_b rfl : 31 + 2 ≤ _), (own_b rfl : 459 + 41 ≤ _)⟩)
  dsimp only [Pt.U, Pt.locs, Pt.cells, Pt.slots] at X341 l341 yy341 zz341 st341 hQ341
  obtain ⟨rfl, Nq341, K341⟩ := hQ341
  obtain ⟨L341, X341, N341⟩ := own_absC (K := 33) (K' := 500) X341 l341 yy341 zz341 N320 Nq341
  have F342 : n0 ≤ T341.heap.size := Nat.le_trans Z332 K341.1
  have F343 := Keep.trans K333 K341 (allS (Or.inr (Nat.le_trans F322.1 (Nat.le_of_eq ga331.symm))) all0)
  have F344 := Exa.keep F334 K341
  have F345 := Fld.keep F335 K341 (ninS (Ne.symm ne331_th) nin0)
  have F346 := own_sta_keep F336 K341 (nsS (Exa.nostat A331) ns0)
  have F347 := own_Ao_keep V337 K341 (ninS (Ne.symm ne331_a28) nin0)
  have F348 := Exa.keep A331 K341
  refine own_tr (B := (T341.setTop (mkF m 48 #[rv th, iv (9 : Int32)] [(.ref a331), (.int (9 : Int32)), (.ref a28)]))) st341 ?_
  obtain ⟨T352, h352, X352, e352, W352, V352, st352⟩ := own_stR X341 hx hZ rfl F347 (Or.inr ⟨_, rfl, Ins.of_exa F348 w_143⟩) (by decide) (by rw [hLs328]; decide) (g := (mkF m 48 #[rv th, iv (9 : Int32)] [(.ref a331), (.int (9 : Int32)), (.ref a28)])) rfl rfl (hb hby own_vs_d48)
  refine own_go (B := (T352.setTop (mkF m 49 #[rv th, iv (9 : Int32)] []))) st352 ?_
  obtain ⟨L352, X352, N352⟩ := own_abs X352 (Fr.snoc X352 N341 gn28)
  have F353 : n0 ≤ h352.size := by rw [W352.size]; exact F342
  have F354 := Keep.wr F343 W352 (Or.inr (Nat.le_trans F21.1 (Nat.le_of_eq ga28.symm)))
  have F355 := Exa.wr W352 F344
  have F356 := Fld.other W352 F345 (Or.inl (Ne.symm ne28_th))
  have F357 := Sta.wr W352 F346
  have F359 := Exa.wr W352 F348
  obtain ⟨Ls360, hLs360, VL360⟩ : ∃ L, L.length = 16 ∧ own_Ao Z h352 a28 "com/example/sluicegate/sluicegate/rule/ValueShards$Shard" L := ⟨_, (List.length_set).trans hLs328, V352⟩
  refine own_go (B := (T352.setTop (mkF m 52 #[rv th, iv (10 : Int32)] []))) (fun t k => XS.iinc X352.here hx rfl (hb hby own_vs_d49) rfl (l' := #[rv th, iv (10 : Int32)]) rfl k) ?_
  refine own_go (B := (T352.setTop (mkF m 28 #[rv th, iv (10 : Int32)] []))) (fun t k => XS.goto X352.here hx rfl (pc0 := 52) (pc' := 28) rfl (hb hby own_vs_d52) (by decide) (by decide) k) ?_
  refine own_go (B := (T352.setTop (mkF m 29 #[rv th, iv (10 : Int32)] [(.int (10 : Int32))]))) (fun t k => XS.iloadN X352.here hx rfl (hb hby own_vs_d28) rfl k) ?_
  obtain ⟨T361, X361, e361, st361⟩ := getS X352 hx hZ hown (host := "") w_109 Via.refl e352 F357 (g := (mkF m 29 #[rv th, iv (10 : Int32)] [(.int (10 : Int32))])) rfl (hb hby own_vs_d29)
  refine own_go (B := (T361.setTop (mkF m 32 #[rv th, iv (10 : Int32)] [(.int (16 : Int32)), (.int (10 : Int32))]))) st361 ?_
  have hc32 : (10 : Int32) < (16 : Int32) := (by decide)
  refine own_icmpN X361 hx (hb hby own_vs_d32) (pn := 35) rfl hc32 ?_
  refine own_go (B := (T361.setTop (mkF m 36 #[rv th, iv (10 : Int32)] [(.ref th)]))) (fun t k => XS.aloadN X361.here hx rfl (hb hby own_vs_d35) rfl rfl k) ?_
  obtain ⟨T362, X362, e362, st362⟩ := getF X361 hx hZ hown (host := "") (Or.inl w_113) Via.refl e361 F356 (g := (mkF m 36 #[rv th, iv (10 : Int32)] [(.ref th)])) rfl rfl (hb hby own_vs_d36)
  refine own_go (B := (T362.setTop (mkF m 39 #[rv th, iv (10 : Int32)] [(.ref a28)]))) st362 ?_
  refine own_go (B := (T362.setTop (mkF m 40 #[rv th, iv (10 : Int32)] [(.int (10 : Int32)), (.ref a28)]))) (fun t k => XS.iloadN X362.here hx rfl (hb hby own_vs_d39) rfl k) ?_
  obtain ⟨T363, h363, X363, e363, E363, A363, D363, U363, st363⟩ := newO X362 hx hZ hown w_111 w_115 w_116 e362 (g := (mkF m 40 #[rv th, iv (10 : Int32)] [(.int (10 : Int32)), (.ref a28)])) rfl (hb hby own_vs_d40) (own_b rfl) (own_b rfl)
  obtain ⟨a363, ga363⟩ : ∃ z, z = h352.size := ⟨_, rfl⟩
  rw [← ga363] at A363 D363 U363 st363
  refine own_go (B := (T363.setTop (mkF m 43 #[rv th, iv (10 : Int32)] [(.ref a363), (.int (10 : Int32)), (.ref a28)]))) st363 ?_
  have Z364 : n0 ≤ h363.size := Nat.le_trans F353 E363.1
  have K365 := Keep.ext F354 E363
  have F366 := Exa.ext E363 F355
  have F367 := Fld.ext E363 F356
  have F368 := Sta.ext E363 F357
  have V369 := own_Ao_ext VL360 E363
  have gn363 : n0 ≤ a363 := Nat.le_trans F353 (Nat.le_of_eq ga363.symm)
  have ne363_th : a363 ≠ th := fun q => absurd (F355.lt) (by rw [← q, ga363]; exact Nat.lt_irrefl _)
  have ne363_a28 : a363 ≠ a28 := fun q => absurd (own_Ao_lt VL360) (by rw [← q, ga363]; exact Nat.lt_irrefl _)
  have F370 : Fld Z h363 a363 "com/example/sluicegate/sluicegate/rule/SpinLock" "words" "[J" .null := D363 (Or.inr w_122) (ty := (.array .long)) (by decide)
  have F371 : Fld Z h363 a363 "com/example/sluicegate/sluicegate/rule/ValueShards$Shard" "kept" "Ljava/util/Map;" .null := D363 (Or.inl w_140) (ty := (.object "java/util/Map")) (by decide)
  have F372 : Fld Z h363 a363 "com/example/sluicegate/sluicegate/rule/ValueShards$Shard" "place" "I" (.int (0 : Int32)) := D363 (Or.inr w_142) (ty := .int) (by decide)
  refine own_go (B := (T363.setTop (mkF m 44 #[rv th, iv (10 : Int32)] [(.ref a363), (.ref a363), (.int (10 : Int32)), (.ref a28)]))) (fun t k => XS.dup X363.here hx rfl (hb hby own_vs_d43) rfl rfl k) ?_
  refine own_go (B := (T363.setTop (mkF m 45 #[rv th, iv (10 : Int32)] [(.int (10 : Int32)), (.ref a363), (.ref a363), (.int (10 : Int32)), (.ref a28)]))) (fun t k => XS.iloadN X363.here hx rfl (hb hby own_vs_d44) rfl k) ?_
  obtain ⟨_, _, ⟨T373, L373, k373, n373⟩, -, X373, ⟨Lc373, hQ373, l373, yy373, zz373⟩, st373⟩ := X363.specialBack hx (y := own_y8) rfl hown (mvT hZ w_117) (mvT hZ w_118) (mvT hZ w_119) (by decide) (backOf (W := 3) (own_sh l Z a0 hw [] a363 (10 : Int32) h363 n0 Z364 A363 gn363 F370 F371 F372) hZ w_119 w_116 (by decide) (by decide)) (g := (mkF m 45 #[rv th, iv (10 : Int32)] [(.int (10 : Int32)), (.ref a363), (.ref a363), (.int (10 : Int32)), (.ref a28)])) rfl (by rw [hml]; rfl) (Steps.refl _) (a := a363) (argsL := [(.int (10 : Int32))]) (rest := [(.ref a363), (.int (10 : Int32)), (.ref a28)]) (lenOf own_pd5 rfl) rfl (by show 2 * 0 + _ ≤ _; exact own_b rfl) (hb hby own_vs_d45) (fun _ _ => ⟨rfl, e363, (own_b rfl : 34 + 2 ≤ _), (own_b rfl : 504 + 41 ≤ _)⟩)
  dsimp only [Pt.U, Pt.locs, Pt.cells, Pt.slots] at X373 l373 yy373 zz373 st373 hQ373
  obtain ⟨rfl, Nq373, K373⟩ := hQ373
  obtain ⟨L373, X373, N373⟩ := own_absC (K := 36) (K' := 545) X373 l373 yy373 zz373 N352 Nq373
  have F374 : n0 ≤ T373.heap.size := Nat.le_trans Z364 K373.1
  have F375 := Keep.trans K365 K373 (allS (Or.inr (Nat.le_trans F354.1 (Nat.le_of_eq ga363.symm))) all0)
  have F376 := Exa.keep F366 K373
  have F377 := Fld.keep F367 K373 (ninS (Ne.symm ne363_th) nin0)
  have F378 := own_sta_keep F368 K373 (nsS (Exa.nostat A363) ns0)
  have F379 := own_Ao_keep V369 K373 (ninS (Ne.symm ne363_a28) nin0)
  have F380 := Exa.keep A363 K373
  refine own_tr (B := (T373.setTop (mkF m 48 #[rv th, iv (10 : Int32)] [(.ref a363), (.int (10 : Int32)), (.ref a28)]))) st373 ?_
  obtain ⟨T384, h384, X384, e384, W384, V384, st384⟩ := own_stR X373 hx hZ rfl F379 (Or.inr ⟨_, rfl, Ins.of_exa F380 w_143⟩) (by decide) (by rw [hLs360]; decide) (g := (mkF m 48 #[rv th, iv (10 : Int32)] [(.ref a363), (.int (10 : Int32)), (.ref a28)])) rfl rfl (hb hby own_vs_d48)
  refine own_go (B := (T384.setTop (mkF m 49 #[rv th, iv (10 : Int32)] []))) st384 ?_
  obtain ⟨L384, X384, N384⟩ := own_abs X384 (Fr.snoc X384 N373 gn28)
  have F385 : n0 ≤ h384.size := by rw [W384.size]; exact F374
  have F386 := Keep.wr F375 W384 (Or.inr (Nat.le_trans F21.1 (Nat.le_of_eq ga28.symm)))
  have F387 := Exa.wr W384 F376
  have F388 := Fld.other W384 F377 (Or.inl (Ne.symm ne28_th))
  have F389 := Sta.wr W384 F378
  have F391 := Exa.wr W384 F380
  obtain ⟨Ls392, hLs392, VL392⟩ : ∃ L, L.length = 16 ∧ own_Ao Z h384 a28 "com/example/sluicegate/sluicegate/rule/ValueShards$Shard" L := ⟨_, (List.length_set).trans hLs360, V384⟩
  refine own_go (B := (T384.setTop (mkF m 52 #[rv th, iv (11 : Int32)] []))) (fun t k => XS.iinc X384.here hx rfl (hb hby own_vs_d49) rfl (l' := #[rv th, iv (11 : Int32)]) rfl k) ?_
  refine own_go (B := (T384.setTop (mkF m 28 #[rv th, iv (11 : Int32)] []))) (fun t k => XS.goto X384.here hx rfl (pc0 := 52) (pc' := 28) rfl (hb hby own_vs_d52) (by decide) (by decide) k) ?_
  refine own_go (B := (T384.setTop (mkF m 29 #[rv th, iv (11 : Int32)] [(.int (11 : Int32))]))) (fun t k => XS.iloadN X384.here hx rfl (hb hby own_vs_d28) rfl k) ?_
  obtain ⟨T393, X393, e393, st393⟩ := getS X384 hx hZ hown (host := "") w_109 Via.refl e384 F389 (g := (mkF m 29 #[rv th, iv (11 : Int32)] [(.int (11 : Int32))])) rfl (hb hby own_vs_d29)
  refine own_go (B := (T393.setTop (mkF m 32 #[rv th, iv (11 : Int32)] [(.int (16 : Int32)), (.int (11 : Int32))]))) st393 ?_
  have hc32 : (11 : Int32) < (16 : Int32) := (by decide)
  refine own_icmpN X393 hx (hb hby own_vs_d32) (pn := 35) rfl hc32 ?_
  refine own_go (B := (T393.setTop (mkF m 36 #[rv th, iv (11 : Int32)] [(.ref th)]))) (fun t k => XS.aloadN X393.here hx rfl (hb hby own_vs_d35) rfl rfl k) ?_
  obtain ⟨T394, X394, e394, st394⟩ := getF X393 hx hZ hown (host := "") (Or.inl w_113) Via.refl e393 F388 (g := (mkF m 36 #[rv th, iv (11 : Int32)] [(.ref th)])) rfl rfl (hb hby own_vs_d36)
  refine own_go (B := (T394.setTop (mkF m 39 #[rv th, iv (11 : Int32)] [(.ref a28)]))) st394 ?_
  refine own_go (B := (T394.setTop (mkF m 40 #[rv th, iv (11 : Int32)] [(.int (11 : Int32)), (.ref a28)]))) (fun t k => XS.iloadN X394.here hx rfl (hb hby own_vs_d39) rfl k) ?_
  obtain ⟨T395, h395, X395, e395, E395, A395, D395, U395, st395⟩ := newO X394 hx hZ hown w_111 w_115 w_116 e394 (g := (mkF m 40 #[rv th, iv (11 : Int32)] [(.int (11 : Int32)), (.ref a28)])) rfl (hb hby own_vs_d40) (own_b rfl) (own_b rfl)
  obtain ⟨a395, ga395⟩ : ∃ z, z = h384.size := ⟨_, rfl⟩
  rw [← ga395] at A395 D395 U395 st395
  refine own_go (B := (T395.setTop (mkF m 43 #[rv th, iv (11 : Int32)] [(.ref a395), (.int (11 : Int32)), (.ref a28)]))) st395 ?_
  have Z396 : n0 ≤ h395.size := Nat.le_trans F385 E395.1
  have K397 := Keep.ext F386 E395
  have F398 := Exa.ext E395 F387
  have F399 := Fld.ext E395 F388
  have F400 := Sta.ext E395 F389
  have V401 := own_Ao_ext VL392 E395
  have gn395 : n0 ≤ a395 := Nat.le_trans F385 (Nat.le_of_eq ga395.symm)
  have ne395_th : a395 ≠ th := fun q => absurd (F387.lt) (by rw [← q, ga395]; exact Nat.lt_irrefl _)
  have ne395_a28 : a395 ≠ a28 := fun q => absurd (own_Ao_lt VL392) (by rw [← q, ga395]; exact Nat.lt_irrefl _)
  have F402 : Fld Z h395 a395 "com/example/sluicegate/sluicegate/rule/SpinLock" "words" "[J" .null := D395 (Or.inr w_122) (ty := (.array .long)) (by decide)
  have F403 : Fld Z h395 a395 "com/example/sluicegate/sluicegate/rule/ValueShards$Shard" "kept" "Ljava/util/Map;" .null := D395 (Or.inl w_140) (ty := (.object "java/util/Map")) (by decide)
  have F404 : Fld Z h395 a395 "com/example/sluicegate/sluicegate/rule/ValueShards$Shard" "place" "I" (.int (0 : Int32)) := D395 (Or.inr w_142) (ty := .int) (by decide)
  refine own_go (B := (T395.setTop (mkF m 44 #[rv th, iv (11 : Int32)] [(.ref a395), (.ref a395), (.int (11 : Int32)), (.ref a28)]))) (fun t k => XS.dup X395.here hx rfl (hb hby own_vs_d43) rfl rfl k) ?_
  refine own_go (B := (T395.setTop (mkF m 45 #[rv th, iv (11 : Int32)] [(.int (11 : Int32)), (.ref a395), (.ref a395), (.int (11 : Int32)), (.ref a28)]))) (fun t k => XS.iloadN X395.here hx rfl (hb hby own_vs_d44) rfl k) ?_
  obtain ⟨_, _, ⟨T405, L405, k405, n405⟩, -, X405, ⟨Lc405, hQ405, l405, yy405, zz405⟩, st405⟩ := X395.specialBack hx (y := own_y8) rfl hown (mvT hZ w_117) (mvT hZ w_118) (mvT hZ w_119) (by decide) (backOf (W := 3) (own_sh l Z a0 hw [] a395 (11 : Int32) h395 n0 Z396 A395 gn395 F402 F403 F404) hZ w_119 w_116 (by decide) (by decide)) (g := (mkF m 45 #[rv th, iv (11 : Int32)] [(.int (11 : Int32)), (.ref a395), (.ref a395), (.int (11 : Int32)), (.ref a28)])) rfl (by rw [hml]; rfl) (Steps.refl _) (a := a395) (argsL := [(.int (11 : Int32))]) (rest := [(.ref a395), (.int (11 : Int32)), (.ref a28)]) (lenOf own_pd5 rfl) rfl (by show 2 * 0 + _ ≤ _; exact own_b rfl) (hb hby own_vs_d45) (fun _ _ => ⟨rfl, e395, (own_b rfl : 37 + 2 ≤ _), (own_b rfl : 549 + 41 ≤ _)⟩)
  dsimp only [Pt.U, Pt.locs, Pt.cells, Pt.slots] at X405 l405 yy405 zz405 st405 hQ405
  obtain ⟨rfl, Nq405, K405⟩ := hQ405
  obtain ⟨L405, X405, N405⟩ := own_absC (K := 39) (K' := 590) X405 l405 yy405 zz405 N384 Nq405
  have F406 : n0 ≤ T405.heap.size := Nat.le_trans Z396 K405.1
  have F407 := Keep.trans K397 K405 (allS (Or.inr (Nat.le_trans F386.1 (Nat.le_of_eq ga395.symm))) all0)
  have F408 := Exa.keep F398 K405
  have F409 := Fld.keep F399 K405 (ninS (Ne.symm ne395_th) nin0)
  have F410 := own_sta_keep F400 K405 (nsS (Exa.nostat A395) ns0)
  have F411 := own_Ao_keep V401 K405 (ninS (Ne.symm ne395_a28) nin0)
  have F412 := Exa.keep A395 K405
  refine own_tr (B := (T405.setTop (mkF m 48 #[rv th, iv (11 : Int32)] [(.ref a395), (.int (11 : Int32)), (.ref a28)]))) st405 ?_
  obtain ⟨T416, h416, X416, e416, W416, V416, st416⟩ := own_stR X405 hx hZ rfl F411 (Or.inr ⟨_, rfl, Ins.of_exa F412 w_143⟩) (by decide) (by rw [hLs392]; decide) (g := (mkF m 48 #[rv th, iv (11 : Int32)] [(.ref a395), (.int (11 : Int32)), (.ref a28)])) rfl rfl (hb hby own_vs_d48)
  refine own_go (B := (T416.setTop (mkF m 49 #[rv th, iv (11 : Int32)] []))) st416 ?_
  obtain ⟨L416, X416, N416⟩ := own_abs X416 (Fr.snoc X416 N405 gn28)
  have F417 : n0 ≤ h416.size := by rw [W416.size]; exact F406
  have F418 := Keep.wr F407 W416 (Or.inr (Nat.le_trans F21.1 (Nat.le_of_eq ga28.symm)))
  have F419 := Exa.wr W416 F408
  have F420 := Fld.other W416 F409 (Or.inl (Ne.symm ne28_th))
  have F421 := Sta.wr W416 F410
  have F423 := Exa.wr W416 F412
  obtain ⟨Ls424, hLs424, VL424⟩ : ∃ L, L.length = 16 ∧ own_Ao Z h416 a28 "com/example/sluicegate/sluicegate/rule/ValueShards$Shard" L := ⟨_, (List.length_set).trans hLs392, V416⟩
  refine own_go (B := (T416.setTop (mkF m 52 #[rv th, iv (12 : Int32)] []))) (fun t k => XS.iinc X416.here hx rfl (hb hby own_vs_d49) rfl (l' := #[rv th, iv (12 : Int32)]) rfl k) ?_
  refine own_go (B := (T416.setTop (mkF m 28 #[rv th, iv (12 : Int32)] []))) (fun t k => XS.goto X416.here hx rfl (pc0 := 52) (pc' := 28) rfl (hb hby own_vs_d52) (by decide) (by decide) k) ?_
  refine own_go (B := (T416.setTop (mkF m 29 #[rv th, iv (12 : Int32)] [(.int (12 : Int32))]))) (fun t k => XS.iloadN X416.here hx rfl (hb hby own_vs_d28) rfl k) ?_
  obtain ⟨T425, X425, e425, st425⟩ := getS X416 hx hZ hown (host := "") w_109 Via.refl e416 F421 (g := (mkF m 29 #[rv th, iv (12 : Int32)] [(.int (12 : Int32))])) rfl (hb hby own_vs_d29)
  refine own_go (B := (T425.setTop (mkF m 32 #[rv th, iv (12 : Int32)] [(.int (16 : Int32)), (.int (12 : Int32))]))) st425 ?_
  have hc32 : (12 : Int32) < (16 : Int32) := (by decide)
  refine own_icmpN X425 hx (hb hby own_vs_d32) (pn := 35) rfl hc32 ?_
  refine own_go (B := (T425.setTop (mkF m 36 #[rv th, iv (12 : Int32)] [(.ref th)]))) (fun t k => XS.aloadN X425.here hx rfl (hb hby own_vs_d35) rfl rfl k) ?_
  obtain ⟨T426, X426, e426, st426⟩ := getF X425 hx hZ hown (host := "") (Or.inl w_113) Via.refl e425 F420 (g := (mkF m 36 #[rv th, iv (12 : Int32)] [(.ref th)])) rfl rfl (hb hby own_vs_d36)
  refine own_go (B := (T426.setTop (mkF m 39 #[rv th, iv (12 : Int32)] [(.ref a28)]))) st426 ?_
  refine own_go (B := (T426.setTop (mkF m 40 #[rv th, iv (12 : Int32)] [(.int (12 : Int32)), (.ref a28)]))) (fun t k => XS.iloadN X426.here hx rfl (hb hby own_vs_d39) rfl k) ?_
  obtain ⟨T427, h427, X427, e427, E427, A427, D427, U427, st427⟩ := newO X426 hx hZ hown w_111 w_115 w_116 e426 (g := (mkF m 40 #[rv th, iv (12 : Int32)] [(.int (12 : Int32)), (.ref a28)])) rfl (hb hby own_vs_d40) (own_b rfl) (own_b rfl)
  obtain ⟨a427, ga427⟩ : ∃ z, z = h416.size := ⟨_, rfl⟩
  rw [← ga427] at A427 D427 U427 st427
  refine own_go (B := (T427.setTop (mkF m 43 #[rv th, iv (12 : Int32)] [(.ref a427), (.int (12 : Int32)), (.ref a28)]))) st427 ?_
  have Z428 : n0 ≤ h427.size := Nat.le_trans F417 E427.1
  have K429 := Keep.ext F418 E427
  have F430 := Exa.ext E427 F419
  have F431 := Fld.ext E427 F420
  have F432 := Sta.ext E427 F421
  have V433 := own_Ao_ext VL424 E427
  have gn427 : n0 ≤ a427 := Nat.le_trans F417 (Nat.le_of_eq ga427.symm)
  have ne427_th : a427 ≠ th := fun q => absurd (F419.lt) (by rw [← q, ga427]; exact Nat.lt_irrefl _)
  have ne427_a28 : a427 ≠ a28 := fun q => absurd (own_Ao_lt VL424) (by rw [← q, ga427]; exact Nat.lt_irrefl _)
  have F434 : Fld Z h427 a427 "com/example/sluicegate/sluicegate/rule/SpinLock" "words" "[J" .null := D427 (Or.inr w_122) (ty := (.array .long)) (by decide)
  have F435 : Fld Z h427 a427 "com/example/sluicegate/sluicegate/rule/ValueShards$Shard" "kept" "Ljava/util/Map;" .null := D427 (Or.inl w_140) (ty := (.object "java/util/Map")) (by decide)
  have F436 : Fld Z h427 a427 "com/example/sluicegate/sluicegate/rule/ValueShards$Shard" "place" "I" (.int (0 : Int32)) := D427 (Or.inr w_142) (ty := .int) (by decide)
  refine own_go (B := (T427.setTop (mkF m 44 #[rv th, iv (12 : Int32)] [(.ref a427), (.ref a427), (.int (12 : Int32)), (.ref a28)]))) (fun t k => XS.dup X427.here hx rfl (hb hby own_vs_d43) rfl rfl k) ?_
  refine own_go (B := (T427.setTop (mkF m 45 #[rv th, iv (12 : Int32)] [(.int (12 : Int32)), (.ref a427), (.ref a427), (.int (12 : Int32)), (.ref a28)]))) (fun t k => XS.iloadN X427.here hx rfl (hb hby own_vs_d44) rfl k) ?_
  obtain ⟨_, _, ⟨T437, L437, k437, n437⟩, -, X437, ⟨Lc437, hQ437, l437, yy437, zz437⟩, st437⟩ := X427.specialBack hx (y := own_y8) rfl hown (mvT hZ w_117) (mvT hZ w_118) (mvT hZ w_119) (by decide) (backOf (W := 3) (own_sh l Z a0 hw [] a427 (12 : Int32) h427 n0 Z428 A427 gn427 F434 F435 F436) hZ w_119 w_116 (by decide) (by decide)) (g := (mkF m 45 #[rv th, iv (12 : Int32)] [(.int (12 : Int32)), (.ref a427), (.ref a427), (.int (12 : Int32)), (.ref a28)])) rfl (by rw [hml]; rfl) (Steps.refl _) (a := a427) (argsL := [(.int (12 : Int32))]) (rest := [(.ref a427), (.int (12 : Int32)), (.ref a28)]) (lenOf own_pd5 rfl) rfl (by show 2 * 0 + _ ≤ _; exact own_b rfl) (hb hby own_vs_d45) (fun _ _ => ⟨rfl, e427, (own_b rfl : 40 + 2 ≤ _), (own_b rfl : 594 + 41 ≤ _)⟩)
  dsimp only [Pt.U, Pt.locs, Pt.cells, Pt.slots] at X437 l437 yy437 zz437 st437 hQ437
  obtain ⟨rfl, Nq437, K437⟩ := hQ437
  obtain ⟨L437, X437, N437⟩ := own_absC (K := 42) (K' := 635) X437 l437 yy437 zz437 N416 Nq437
  have F438 : n0 ≤ T437.heap.size := Nat.le_trans Z428 K437.1
  have F439 := Keep.trans K429 K437 (allS (Or.inr (Nat.le_trans F418.1 (Nat.le_of_eq ga427.symm))) all0)
  have F440 := Exa.keep F430 K437
  have F441 := Fld.keep F431 K437 (ninS (Ne.symm ne427_th) nin0)
  have F442 := own_sta_keep F432 K437 (nsS (Exa.nostat A427) ns0)
  have F443 := own_Ao_keep V433 K437 (ninS (Ne.symm ne427_a28) nin0)
  have F444 := Exa.keep A427 K437
  refine own_tr (B := (T437.setTop (mkF m 48 #[rv th, iv (12 : Int32)] [(.ref a427), (.int (12 : Int32)), (.ref a28)]))) st437 ?_
  obtain ⟨T448, h448, X448, e448, W448, V448, st448⟩ := own_stR X437 hx hZ rfl F443 (Or.inr ⟨_, rfl, Ins.of_exa F444 w_143⟩) (by decide) (by rw [hLs424]; decide) (g := (mkF m 48 #[rv th, iv (12 : Int32)] [(.ref a427), (.int (12 : Int32)), (.ref a28)])) rfl rfl (hb hby own_vs_d48)
  refine own_go (B := (T448.setTop (mkF m 49 #[rv th, iv (12 : Int32)] []))) st448 ?_
  obtain ⟨L448, X448, N448⟩ := own_abs X448 (Fr.snoc X448 N437 gn28)
  have F449 : n0 ≤ h448.size := by rw [W448.size]; exact F438
  have F450 := Keep.wr F439 W448 (Or.inr (Nat.le_trans F21.1 (Nat.le_of_eq ga28.symm)))
  have F451 := Exa.wr W448 F440
  have F452 := Fld.other W448 F441 (Or.inl (Ne.symm ne28_th))
  have F453 := Sta.wr W448 F442
  have F455 := Exa.wr W448 F444
  obtain ⟨Ls456, hLs456, VL456⟩ : ∃ L, L.length = 16 ∧ own_Ao Z h448 a28 "com/example/sluicegate/sluicegate/rule/ValueShards$Shard" L := ⟨_, (List.length_set).trans hLs424, V448⟩
  refine own_go (B := (T448.setTop (mkF m 52 #[rv th, iv (13 : Int32)] []))) (fun t k => XS.iinc X448.here hx rfl (hb hby own_vs_d49) rfl (l' := #[rv th, iv (13 : Int32)]) rfl k) ?_
  refine own_go (B := (T448.setTop (mkF m 28 #[rv th, iv (13 : Int32)] []))) (fun t k => XS.goto X448.here hx rfl (pc0 := 52) (pc' := 28) rfl (hb hby own_vs_d52) (by decide) (by decide) k) ?_
  refine own_go (B := (T448.setTop (mkF m 29 #[rv th, iv (13 : Int32)] [(.int (13 : Int32))]))) (fun t k => XS.iloadN X448.here hx rfl (hb hby own_vs_d28) rfl k) ?_
  obtain ⟨T457, X457, e457, st457⟩ := getS X448 hx hZ hown (host := "") w_109 Via.refl e448 F453 (g := (mkF m 29 #[rv th, iv (13 : Int32)] [(.int (13 : Int32))])) rfl (hb hby own_vs_d29)
  refine own_go (B := (T457.setTop (mkF m 32 #[rv th, iv (13 : Int32)] [(.int (16 : Int32)), (.int (13 : Int32))]))) st457 ?_
  have hc32 : (13 : Int32) < (16 : Int32) := (by decide)
  refine own_icmpN X457 hx (hb hby own_vs_d32) (pn := 35) rfl hc32 ?_
  refine own_go (B := (T457.setTop (mkF m 36 #[rv th, iv (13 : Int32)] [(.ref th)]))) (fun t k => XS.aloadN X457.here hx rfl (hb hby own_vs_d35) rfl rfl k) ?_
  obtain ⟨T458, X458, e458, st458⟩ := getF X457 hx hZ hown (host := "") (Or.inl w_113) Via.refl e457 F452 (g := (mkF m 36 #[rv th, iv (13 : Int32)] [(.ref th)])) rfl rfl (hb hby own_vs_d36)
  refine own_go (B := (T458.setTop (mkF m 39 #[rv th, iv (13 : Int32)] [(.ref a28)]))) st458 ?_
  refine own_go (B := (T458.setTop (mkF m 40 #[rv th, iv (13 : Int32)] [(.int (13 : Int32)), (.ref a28)]))) (fun t k => XS.iloadN X458.here hx rfl (hb hby own_vs_d39) rfl k) ?_
  obtain ⟨T459, h459, X459, e459, E459, A459, D459, U459, st459⟩ := newO X458 hx hZ hown w_111 w_115 w_116 e458 (g := (mkF m 40 #[rv th, iv (13 : Int32)] [(.int (13 : Int32)), (.ref a28)])) rfl (hb hby own_vs_d40) (own_b rfl) (own_b rfl)
  obtain ⟨a459, ga459⟩ : ∃ z, z = h448.size := ⟨_, rfl⟩
  rw [← ga459] at A459 D459 U459 st459
  refine own_go (B := (T459.setTop (mkF m 43 #[rv th, iv (13 : Int32)] [(.ref a459), (.int (13 : Int32)), (.ref a28)]))) st459 ?_
  have Z460 : n0 ≤ h459.size := Nat.le_trans F449 E459.1
  have K461 := Keep.ext F450 E459
  have F462 := Exa.ext E459 F451
  have F463 := Fld.ext E459 F452
  have F464 := Sta.ext E459 F453
  have V465 := own_Ao_ext VL456 E459
  have gn459 : n0 ≤ a459 := Nat.le_trans F449 (Nat.le_of_eq ga459.symm)
  have ne459_th : a459 ≠ th := fun q => absurd (F451.lt) (by rw [← q, ga459]; exact Nat.lt_irrefl _)
  have ne459_a28 : a459 ≠ a28 := fun q => absurd (own_Ao_lt VL456) (by rw [← q, ga459]; exact Nat.lt_irrefl _)
  have F466 : Fld Z h459 a459 "com/example/sluicegate/sluicegate/rule/SpinLock" "words" "[J" .null := D459 (Or.inr w_122) (ty := (.array .long)) (by decide)
  have F467 : Fld Z h459 a459 "com/example/sluicegate/sluicegate/rule/ValueShards$Shard" "kept" "Ljava/util/Map;" .null := D459 (Or.inl w_140) (ty := (.object "java/util/Map")) (by decide)
  have F468 : Fld Z h459 a459 "com/example/sluicegate/sluicegate/rule/ValueShards$Shard" "place" "I" (.int (0 : Int32)) := D459 (Or.inr w_142) (ty := .int) (by decide)
  refine own_go (B := (T459.setTop (mkF m 44 #[rv th, iv (13 : Int32)] [(.ref a459), (.ref a459), (.int (13 : Int32)), (.ref a28)]))) (fun t k => XS.dup X459.here hx rfl (hb hby own_vs_d43) rfl rfl k) ?_
  refine own_go (B := (T459.setTop (mkF m 45 #[rv th, iv (13 : Int32)] [(.int (13 : Int32)), (.ref a459), (.ref a459), (.int (13 : Int32)), (.ref a28)]))) (fun t k => XS.iloadN X459.here hx rfl (hb hby own_vs_d44) rfl k) ?_
  obtain ⟨_, _, ⟨T469, L469, k469, n469⟩, -, X469, ⟨Lc469, hQ469, l469, yy469, zz469⟩, st469⟩ := X459.specialBack hx (y := own_y8) rfl hown (mvT hZ w_117) (mvT hZ w_118) (mvT hZ w_119) (by decide) (backOf (W := 3) (own_sh l Z a0 hw [] a459 (13 : Int32) h459 n0 Z460 A459 gn459 F466 F467 F468) hZ w_119 w_116 (by decide) (by decide)) (g := (mkF m 45 #[rv th, iv (13 : Int32)] [(.int (13 : Int32)), (.ref a459), (.ref a459), (.int (13 : Int32)), (.ref a28)])) rfl (by rw [hml]; rfl) (Steps.refl _) (a := a459) (argsL := [(.int (13 : Int32))]) (rest := [(.ref a459), (.int (13 : Int32)), (.ref a28)]) (lenOf own_pd5 rfl) rfl (by show 2 * 0 + _ ≤ _; exact own_b rfl) (hb hby own_vs_d45) (fun _ _ => ⟨rfl, e459, (own_b rfl : 43 + 2 ≤ _), (own_b rfl : 639 + 41 ≤ _)⟩)
  dsimp only [Pt.U, Pt.locs, Pt.cells, Pt.slots] at X469 l469 yy469 zz469 st469 hQ469
  obtain ⟨rfl, Nq469, K469⟩ := hQ469
  obtain ⟨L469, X469, N469⟩ := own_absC (K := 45) (K' := 680) X469 l469 yy469 zz469 N448 Nq469
  have F470 : n0 ≤ T469.heap.size := Nat.le_trans Z460 K469.1
  have F471 := Keep.trans K461 K469 (allS (Or.inr (Nat.le_trans F450.1 (Nat.le_of_eq ga459.symm))) all0)
  have F472 := Exa.keep F462 K469
  have F473 := Fld.keep F463 K469 (ninS (Ne.symm ne459_th) nin0)
  have F474 := own_sta_keep F464 K469 (nsS (Exa.nostat A459) ns0)
  have F475 := own_Ao_keep V465 K469 (ninS (Ne.symm ne459_a28) nin0)
  have F476 := Exa.keep A459 K469
  refine own_tr (B := (T469.setTop (mkF m 48 #[rv th, iv (13 : Int32)] [(.ref a459), (.int (13 : Int32)), (.ref a28)]))) st469 ?_
  obtain ⟨T480, h480, X480, e480, W480, V480, st480⟩ := own_stR X469 hx hZ rfl F475 (Or.inr ⟨_, rfl, Ins.of_exa F476 w_143⟩) (by decide) (by rw [hLs456]; decide) (g := (mkF m 48 #[rv th, iv (13 : Int32)] [(.ref a459), (.int (13 : Int32)), (.ref a28)])) rfl rfl (hb hby own_vs_d48)
  refine own_go (B := (T480.setTop (mkF m 49 #[rv th, iv (13 : Int32)] []))) st480 ?_
  obtain ⟨L480, X480, N480⟩ := own_abs X480 (Fr.snoc X480 N469 gn28)
  have F481 : n0 ≤ h480.size := by rw [W480.size]; exact F470
  have F482 := Keep.wr F471 W480 (Or.inr (Nat.le_trans F21.1 (Nat.le_of_eq ga28.symm)))
  have F483 := Exa.wr W480 F472
  have F484 := Fld.other W480 F473 (Or.inl (Ne.symm ne28_th))
  have F485 := Sta.wr W480 F474
  have F487 := Exa.wr W480 F476
  obtain ⟨Ls488, hLs488, VL488⟩ : ∃ L, L.length = 16 ∧ own_Ao Z h480 a28 "com/example/sluicegate/sluicegate/rule/ValueShards$Shard" L := ⟨_, (List.length_set).trans hLs456, V480⟩
  refine own_go (B := (T480.setTop (mkF m 52 #[rv th, iv (14 : Int32)] []))) (fun t k => XS.iinc X480.here hx rfl (hb hby own_vs_d49) rfl (l' := #[rv th, iv (14 : Int32)]) rfl k) ?_
  refine own_go (B := (T480.setTop (mkF m 28 #[rv th, iv (14 : Int32)] []))) (fun t k => XS.goto X480.here hx rfl (pc0 := 52) (pc' := 28) rfl (hb hby own_vs_d52) (by decide) (by decide) k) ?_
  refine own_go (B := (T480.setTop (mkF m 29 #[rv th, iv (14 : Int32)] [(.int (14 : Int32))]))) (fun t k => XS.iloadN X480.here hx rfl (hb hby own_vs_d28) rfl k) ?_
  obtain ⟨T489, X489, e489, st489⟩ := getS X480 hx hZ hown (host := "") w_109 Via.refl e480 F485 (g := (mkF m 29 #[rv th, iv (14 : Int32)] [(.int (14 : Int32))])) rfl (hb hby own_vs_d29)
  refine own_go (B := (T489.setTop (mkF m 32 #[rv th, iv (14 : Int32)] [(.int (16 : Int32)), (.int (14 : Int32))]))) st489 ?_
  have hc32 : (14 : Int32) < (16 : Int32) := (by decide)
  refine own_icmpN X489 hx (hb hby own_vs_d32) (pn := 35) rfl hc32 ?_
  refine own_go (B := (T489.setTop (mkF m 36 #[rv th, iv (14 : Int32)] [(.ref th)]))) (fun t k => XS.aloadN X489.here hx rfl (hb hby own_vs_d35) rfl rfl k) ?_
  obtain ⟨T490, X490, e490, st490⟩ := getF X489 hx hZ hown (host := "") (Or.inl w_113) Via.refl e489 F484 (g := (mkF m 36 #[rv th, iv (14 : Int32)] [(.ref th)])) rfl rfl (hb hby own_vs_d36)
  refine own_go (B := (T490.setTop (mkF m 39 #[rv th, iv (14 : Int32)] [(.ref a28)]))) st490 ?_
  refine own_go (B := (T490.setTop (mkF m 40 #[rv th, iv (14 : Int32)] [(.int (14 : Int32)), (.ref a28)]))) (fun t k => XS.iloadN X490.here hx rfl (hb hby own_vs_d39) rfl k) ?_
  obtain ⟨T491, h491, X491, e491, E491, A491, D491, U491, st491⟩ := newO X490 hx hZ hown w_111 w_115 w_116 e490 (g := (mkF m 40 #[rv th, iv (14 : Int32)] [(.int (14 : Int32)), (.ref a28)])) rfl (hb hby own_vs_d40) (own_b rfl) (own_b rfl)
  obtain ⟨a491, ga491⟩ : ∃ z, z = h480.size := ⟨_, rfl⟩
  rw [← ga491] at A491 D491 U491 st491
  refine own_go (B := (T491.setTop (mkF m 43 #[rv th, iv (14 : Int32)] [(.ref a491), (.int (14 : Int32)), (.ref a28)]))) st491 ?_
  have Z492 : n0 ≤ h491.size := Nat.le_trans F481 E491.1
  have K493 := Keep.ext F482 E491
  have F494 := Exa.ext E491 F483
  have F495 := Fld.ext E491 F484
  have F496 := Sta.ext E491 F485
  have V497 := own_Ao_ext VL488 E491
  have gn491 : n0 ≤ a491 := Nat.le_trans F481 (Nat.le_of_eq ga491.symm)
  have ne491_th : a491 ≠ th := fun q => absurd (F483.lt) (by rw [← q, ga491]; exact Nat.lt_irrefl _)
  have ne491_a28 : a491 ≠ a28 := fun q => absurd (own_Ao_lt VL488) (by rw [← q, ga491]; exact Nat.lt_irrefl _)
  have F498 : Fld Z h491 a491 "com/example/sluicegate/sluicegate/rule/SpinLock" "words" "[J" .null := D491 (Or.inr w_122) (ty := (.array .long)) (by decide)
  have F499 : Fld Z h491 a491 "com/example/sluicegate/sluicegate/rule/ValueShards$Shard" "kept" "Ljava/util/Map;" .null := D491 (Or.inl w_140) (ty := (.object "java/util/Map")) (by decide)
  have F500 : Fld Z h491 a491 "com/example/sluicegate/sluicegate/rule/ValueShards$Shard" "place" "I" (.int (0 : Int32)) := D491 (Or.inr w_142) (ty := .int) (by decide)
  refine own_go (B := (T491.setTop (mkF m 44 #[rv th, iv (14 : Int32)] [(.ref a491), (.ref a491), (.int (14 : Int32)), (.ref a28)]))) (fun t k => XS.dup X491.here hx rfl (hb hby own_vs_d43) rfl rfl k) ?_
  refine own_go (B := (T491.setTop (mkF m 45 #[rv th, iv (14 : Int32)] [(.int (14 : Int32)), (.ref a491), (.ref a491), (.int (14 : Int32)), (.ref a28)]))) (fun t k => XS.iloadN X491.here hx rfl (hb hby own_vs_d44) rfl k) ?_
  obtain ⟨_, _, ⟨T501, L501, k501, n501⟩, -, X501, ⟨Lc501, hQ501, l501, yy501, zz501⟩, st501⟩ := X491.specialBack hx (y := own_y8) rfl hown (mvT hZ w_117) (mvT hZ w_118) (mvT hZ w_119) (by decide) (backOf (W := 3) (own_sh l Z a0 hw [] a491 (14 : Int32) h491 n0 Z492 A491 gn491 F498 F499 F500) hZ w_119 w_116 (by decide) (by decide)) (g := (mkF m 45 #[rv th, iv (14 : Int32)] [(.int (14 : Int32)), (.ref a491), (.ref a491), (.int (14 : Int32)), (.ref a28)])) rfl (by rw [hml]; rfl) (Steps.refl _) (a := a491) (argsL := [(.int (14 : Int32))]) (rest := [(.ref a491), (.int (14 : Int32)), (.ref a28)]) (lenOf own_pd5 rfl) rfl (by show 2 * 0 + _ ≤ _; exact own_b rfl) (hb hby own_vs_d45) (fun _ _ => ⟨rfl, e491, (own_b rfl : 46 + 2 ≤ _), (own_b rfl : 684 + 41 ≤ _)⟩)
  dsimp only [Pt.U, Pt.locs, Pt.cells, Pt.slots] at X501 l501 yy501 zz501 st501 hQ501
  obtain ⟨rfl, Nq501, K501⟩ := hQ501
  obtain ⟨L501, X501, N501⟩ := own_absC (K := 48) (K' := 725) X501 l501 yy501 zz501 N480 Nq501
  have F502 : n0 ≤ T501.heap.size := Nat.le_trans Z492 K501.1
  have F503 := Keep.trans K493 K501 (allS (Or.inr (Nat.le_trans F482.1 (Nat.le_of_eq ga491.symm))) all0)
  have F504 := Exa.keep F494 K501
  have F505 := Fld.keep F495 K501 (ninS (Ne.symm ne491_th) nin0)
  have F506 := own_sta_keep F496 K501 (nsS (Exa.nostat A491) ns0)
  have F507 := own_Ao_keep V497 K501 (ninS (Ne.symm ne491_a28) nin0)
  have F508 := Exa.keep A491 K501
  refine own_tr (B := (T501.setTop (mkF m 48 #[rv th, iv (14 : Int32)] [(.ref a491), (.int (14 : Int32)), (.ref a28)]))) st501 ?_
  obtain ⟨T512, h512, X512, e512, W512, V512, st512⟩ := own_stR X501 hx hZ rfl F507 (Or.inr ⟨_, rfl, Ins.of_exa F508 w_143⟩) (by decide) (by rw [hLs488]; decide) (g := (mkF m 48 #[rv th, iv (14 : Int32)] [(.ref a491), (.int (14 : Int32)), (.ref a28)])) rfl rfl (hb hby own_vs_d48)
  refine own_go (B := (T512.setTop (mkF m 49 #[rv th, iv (14 : Int32)] []))) st512 ?_
  obtain ⟨L512, X512, N512⟩ := own_abs X512 (Fr.snoc X512 N501 gn28)
  have F513 : n0 ≤ h512.size := by rw [W512.size]; exact F502
  have F514 := Keep.wr F503 W512 (Or.inr (Nat.le_trans F21.1 (Nat.le_of_eq ga28.symm)))
  have F515 := Exa.wr W512 F504
  have F516 := Fld.other W512 F505 (Or.inl (Ne.symm ne28_th))
  have F517 := Sta.wr W512 F506
  have F519 := Exa.wr W512 F508
  obtain ⟨Ls520, hLs520, VL520⟩ : ∃ L, L.length = 16 ∧ own_Ao Z h512 a28 "com/example/sluicegate/sluicegate/rule/ValueShards$Shard" L := ⟨_, (List.length_set).trans hLs488, V512⟩
  refine own_go (B := (T512.setTop (mkF m 52 #[rv th, iv (15 : Int32)] []))) (fun t k => XS.iinc X512.here hx rfl (hb hby own_vs_d49) rfl (l' := #[rv th, iv (15 : Int32)]) rfl k) ?_
  refine own_go (B := (T512.setTop (mkF m 28 #[rv th, iv (15 : Int32)] []))) (fun t k => XS.goto X512.here hx rfl (pc0 := 52) (pc' := 28) rfl (hb hby own_vs_d52) (by decide) (by decide) k) ?_
  refine own_go (B := (T512.setTop (mkF m 29 #[rv th, iv (15 : Int32)] [(.int (15 : Int32))]))) (fun t k => XS.iloadN X512.here hx rfl (hb hby own_vs_d28) rfl k) ?_
  obtain ⟨T521, X521, e521, st521⟩ := getS X512 hx hZ hown (host := "") w_109 Via.refl e512 F517 (g := (mkF m 29 #[rv th, iv (15 : Int32)] [(.int (15 : Int32))])) rfl (hb hby own_vs_d29)
  refine own_go (B := (T521.setTop (mkF m 32 #[rv th, iv (15 : Int32)] [(.int (16 : Int32)), (.int (15 : Int32))]))) st521 ?_
  have hc32 : (15 : Int32) < (16 : Int32) := (by decide)
  refine own_icmpN X521 hx (hb hby own_vs_d32) (pn := 35) rfl hc32 ?_
  refine own_go (B := (T521.setTop (mkF m 36 #[rv th, iv (15 : Int32)] [(.ref th)]))) (fun t k => XS.aloadN X521.here hx rfl (hb hby own_vs_d35) rfl rfl k) ?_
  obtain ⟨T522, X522, e522, st522⟩ := getF X521 hx hZ hown (host := "") (Or.inl w_113) Via.refl e521 F516 (g := (mkF m 36 #[rv th, iv (15 : Int32)] [(.ref th)])) rfl rfl (hb hby own_vs_d36)
  refine own_go (B := (T522.setTop (mkF m 39 #[rv th, iv (15 : Int32)] [(.ref a28)]))) st522 ?_
  refine own_go (B := (T522.setTop (mkF m 40 #[rv th, iv (15 : Int32)] [(.int (15 : Int32)), (.ref a28)]))) (fun t k => XS.iloadN X522.here hx rfl (hb hby own_vs_d39) rfl k) ?_
  obtain ⟨T523, h523, X523, e523, E523, A523, D523, U523, st523⟩ := newO X522 hx hZ hown w_111 w_115 w_116 e522 (g := (mkF m 40 #[rv th, iv (15 : Int32)] [(.int (15 : Int32)), (.ref a28)])) rfl (hb hby own_vs_d40) (own_b rfl) (own_b rfl)
  obtain ⟨a523, ga523⟩ : ∃ z, z = h512.size := ⟨_, rfl⟩
  rw [← ga523] at A523 D523 U523 st523
  refine own_go (B := (T523.setTop (mkF m 43 #[rv th, iv (15 : Int32)] [(.ref a523), (.int (15 : Int32)), (.ref a28)]))) st523 ?_
  have Z524 : n0 ≤ h523.size := Nat.le_trans F513 E523.1
  have K525 := Keep.ext F514 E523
  have F526 := Exa.ext E523 F515
  have F527 := Fld.ext E523 F516
  have F528 := Sta.ext E523 F517
  have V529 := own_Ao_ext VL520 E523
  have gn523 : n0 ≤ a523 := Nat.le_trans F513 (Nat.le_of_eq ga523.symm)
  have ne523_th : a523 ≠ th := fun q => absurd (F515.lt) (by rw [← q, ga523]; exact Nat.lt_irrefl _)
  have ne523_a28 : a523 ≠ a28 := fun q => absurd (own_Ao_lt VL520) (by rw [← q, ga523]; exact Nat.lt_irrefl _)
  have F530 : Fld Z h523 a523 "com/example/sluicegate/sluicegate/rule/SpinLock" "words" "[J" .null := D523 (Or.inr w_122) (ty := (.array .long)) (by decide)
  have F531 : Fld Z h523 a523 "com/example/sluicegate/sluicegate/rule/ValueShards$Shard" "kept" "Ljava/util/Map;" .null := D523 (Or.inl w_140) (ty := (.object "java/util/Map")) (by decide)
  have F532 : Fld Z h523 a523 "com/example/sluicegate/sluicegate/rule/ValueShards$Shard" "place" "I" (.int (0 : Int32)) := D523 (Or.inr w_142) (ty := .int) (by decide)
  refine own_go (B := (T523.setTop (mkF m 44 #[rv th, iv (15 : Int32)] [(.ref a523), (.ref a523), (.int (15 : Int32)), (.ref a28)]))) (fun t k => XS.dup X523.here hx rfl (hb hby own_vs_d43) rfl rfl k) ?_
  refine own_go (B := (T523.setTop (mkF m 45 #[rv th, iv (15 : Int32)] [(.int (15 : Int32)), (.ref a523), (.ref a523), (.int (15 : Int32)), (.ref a28)]))) (fun t k => XS.iloadN X523.here hx rfl (hb hby own_vs_d44) rfl k) ?_
  obtain ⟨_, _, ⟨T533, L533, k533, n533⟩, -, X533, ⟨Lc533, hQ533, l533, yy533, zz533⟩, st533⟩ := X523.specialBack hx (y := own_y8) rfl hown (mvT hZ w_117) (mvT hZ w_118) (mvT hZ w_119) (by decide) (backOf (W := 3) (own_sh l Z a0 hw [] a523 (15 : Int32) h523 n0 Z524 A523 gn523 F530 F531 F532) hZ w_119 w_116 (by decide) (by decide)) (g := (mkF m 45 #[rv th, iv (15 : Int32)] [(.int (15 : Int32)), (.ref a523), (.ref a523), (.int (15 : Int32)), (.ref a28)])) rfl (by rw [hml]; rfl) (Steps.refl _) (a := a523) (argsL := [(.int (15 : Int32))]) (rest := [(.ref a523), (.int (15 : Int32)), (.ref a28)]) (lenOf own_pd5 rfl) rfl (by show 2 * 0 + _ ≤ _; exact own_b rfl) (hb hby own_vs_d45) (fun _ _ => ⟨rfl, e523, (own_b rfl : 49 + 2 ≤ _), (own_b rfl : 729 + 41 ≤ _)⟩)
  dsimp only [Pt.U, Pt.locs, Pt.cells, Pt.slots] at X533 l533 yy533 zz533 st533 hQ533
  obtain ⟨rfl, Nq533, K533⟩ := hQ533
  obtain ⟨L533, X533, N533⟩ := own_absC (K := 51) (K' := 770) X533 l533 yy533 zz533 N512 Nq533
  have F534 : n0 ≤ T533.heap.size := Nat.le_trans Z524 K533.1
  have F535 := Keep.trans K525 K533 (allS (Or.inr (Nat.le_trans F514.1 (Nat.le_of_eq ga523.symm))) all0)
  have F536 := Exa.keep F526 K533
  have F537 := Fld.keep F527 K533 (ninS (Ne.symm ne523_th) nin0)
  have F538 := own_sta_keep F528 K533 (nsS (Exa.nostat A523) ns0)
  have F539 := own_Ao_keep V529 K533 (ninS (Ne.symm ne523_a28) nin0)
  have F540 := Exa.keep A523 K533
  refine own_tr (B := (T533.setTop (mkF m 48 #[rv th, iv (15 : Int32)] [(.ref a523), (.int (15 : Int32)), (.ref a28)]))) st533 ?_
  obtain ⟨T544, h544, X544, e544, W544, V544, st544⟩ := own_stR X533 hx hZ rfl F539 (Or.inr ⟨_, rfl, Ins.of_exa F540 w_143⟩) (by decide) (by rw [hLs520]; decide) (g := (mkF m 48 #[rv th, iv (15 : Int32)] [(.ref a523), (.int (15 : Int32)), (.ref a28)])) rfl rfl (hb hby own_vs_d48)
  refine own_go (B := (T544.setTop (mkF m 49 #[rv th, iv (15 : Int32)] []))) st544 ?_
  obtain ⟨L544, X544, N544⟩ := own_abs X544 (Fr.snoc X544 N533 gn28)
  have F545 : n0 ≤ h544.size := by rw [W544.size]; exact F534
  have F546 := Keep.wr F535 W544 (Or.inr (Nat.le_trans F21.1 (Nat.le_of_eq ga28.symm)))
  have F547 := Exa.wr W544 F536
  have F548 := Fld.other W544 F537 (Or.inl (Ne.symm ne28_th))
  have F549 := Sta.wr W544 F538
  have F551 := Exa.wr W544 F540
  obtain ⟨Ls552, hLs552, VL552⟩ : ∃ L, L.length = 16 ∧ own_Ao Z h544 a28 "com/example/sluicegate/sluicegate/rule/ValueShards$Shard" L := ⟨_, (List.length_set).trans hLs520, V544⟩
  refine own_go (B := (T544.setTop (mkF m 52 #[rv th, iv (16 : Int32)] []))) (fun t k => XS.iinc X544.here hx rfl (hb hby own_vs_d49) rfl (l' := #[rv th, iv (16 : Int32)]) rfl k) ?_
  refine own_go (B := (T544.setTop (mkF m 28 #[rv th, iv (16 : Int32)] []))) (fun t k => XS.goto X544.here hx rfl (pc0 := 52) (pc' := 28) rfl (hb hby own_vs_d52) (by decide) (by decide) k) ?_
  refine own_go (B := (T544.setTop (mkF m 29 #[rv th, iv (16 : Int32)] [(.int (16 : Int32))]))) (fun t k => XS.iloadN X544.here hx rfl (hb hby own_vs_d28) rfl k) ?_
  obtain ⟨T553, X553, e553, st553⟩ := getS X544 hx hZ hown (host := "") w_109 Via.refl e544 F549 (g := (mkF m 29 #[rv th, iv (16 : Int32)] [(.int (16 : Int32))])) rfl (hb hby own_vs_d29)
  refine own_go (B := (T553.setTop (mkF m 32 #[rv th, iv (16 : Int32)] [(.int (16 : Int32)), (.int (16 : Int32))]))) st553 ?_
  have hc32 : ¬ (16 : Int32) < (16 : Int32) := (by decide)
  refine own_icmpY X553 hx (hb hby own_vs_d32) (pc' := 55) (by decide) (by decide) hc32 ?_
  exact own_retV X553 hx hlk Bd.returns (hb hby own_vs_d55) (own_b rfl) (own_b rfl) (Q := (own_vs_Q Z th h0 n0)) (by rw [e553]; exact ⟨rfl, N544, F546⟩)

theorem own_tm_d0 : decode jdk_2799_method_9_code 0 = .ok (.aload_n 0, 1) := by decide +kernel
theorem own_tm_d1 : decode jdk_2799_method_9_code 1 = .ok (.getfield 44, 3) := by decide +kernel
theorem own_tm_d4 : decode jdk_2799_method_9_code 4 = .ok (.dup2, 1) := by decide +kernel
theorem own_tm_d5 : decode jdk_2799_method_9_code 5 = .ok (.lstore_n 3, 1) := by decide +kernel
theorem own_tm_d6 : decode jdk_2799_method_9_code 6 = .ok (.ldc2_w 63, 3) := by decide +kernel
theorem own_tm_d9 : decode jdk_2799_method_9_code 9 = .ok (.lcmp, 1) := by decide +kernel
theorem own_tm_d10 : decode jdk_2799_method_9_code 10 = .ok (.ifCond .gt 23, 3) := by decide +kernel
theorem own_tm_d33 : decode jdk_2799_method_9_code 33 = .ok (.lload_n 1, 1) := by decide +kernel
theorem own_tm_d34 : decode jdk_2799_method_9_code 34 = .ok (.aload_n 0, 1) := by decide +kernel
theorem own_tm_d35 : decode jdk_2799_method_9_code 35 = .ok (.getfield 69, 3) := by decide +kernel
theorem own_tm_d38 : decode jdk_2799_method_9_code 38 = .ok (.dup2, 1) := by decide +kernel
theorem own_tm_d39 : decode jdk_2799_method_9_code 39 = .ok (.lstore 5, 2) := by decide +kernel
theorem own_tm_d41 : decode jdk_2799_method_9_code 41 = .ok (.lcmp, 1) := by decide +kernel
theorem own_tm_d42 : decode jdk_2799_method_9_code 42 = .ok (.ifCond .le 7, 3) := by decide +kernel
theorem own_tm_d45 : decode jdk_2799_method_9_code 45 = .ok (.ldc2_w 50, 3) := by decide +kernel
theorem own_tm_d48 : decode jdk_2799_method_9_code 48 = .ok (.lreturn, 1) := by decide +kernel
theorem own_tm_d49 : decode jdk_2799_method_9_code 49 = .ok (.lload_n 1, 1) := by decide +kernel
theorem own_tm_d50 : decode jdk_2799_method_9_code 50 = .ok (.lload 5, 2) := by decide +kernel
theorem own_tm_d52 : decode jdk_2799_method_9_code 52 = .ok (.lneg, 1) := by decide +kernel
theorem own_tm_d53 : decode jdk_2799_method_9_code 53 = .ok (.lcmp, 1) := by decide +kernel
theorem own_tm_d54 : decode jdk_2799_method_9_code 54 = .ok (.ifCond .ge 7, 3) := by decide +kernel
theorem own_tm_d61 : decode jdk_2799_method_9_code 61 = .ok (.lload_n 1, 1) := by decide +kernel
theorem own_tm_d62 : decode jdk_2799_method_9_code 62 = .ok (.aload_n 0, 1) := by decide +kernel
theorem own_tm_d63 : decode jdk_2799_method_9_code 63 = .ok (.getfield 65, 3) := by decide +kernel
theorem own_tm_d66 : decode jdk_2799_method_9_code 66 = .ok (.i2l, 1) := by decide +kernel
theorem own_tm_d67 : decode jdk_2799_method_9_code 67 = .ok (.lmul, 1) := by decide +kernel
theorem own_tm_d68 : decode jdk_2799_method_9_code 68 = .ok (.lreturn, 1) := by decide +kernel
theorem own_tm_pn : plainName "java/util/concurrent/TimeUnit" = true := by first | (simp [plainName, overriddenIn]; done) | decide +kernel
theorem own_tm_ef (m : MethodId) (th : Addr) (px : Int64) : entryFrame m #[(.ref th), (.long px)] 7 = mkF m 0 #[rv th, .val (.long px), .second, .unset, .unset, .unset, .unset] [] := by first | (simp [entryFrame, mkF, argsToLocals, Value.category]; done) | rfl
def own_tm_Q (Z : State) (th : Addr) (px : Int64) (mr : Int32) (h0 : Heap) (n0 : Nat) (v : Option Value) (h : Heap) (L : List Loc) : Prop := ∃ r, v = some (.long r) ∧ Fr n0 L ∧ h = h0
set_option maxRecDepth 65536 in
set_option maxHeartbeats 40000000 in
theorem own_tm (l : Launch) (Z : State) (a0 : Array Value) (hw : ∀ d ∈ tables_1, d.before a0 Z = true) (ws : List Jvm.Cond) (th : Addr) (px : Int64) (mr : Int32) (h0 : Heap) (n0 : Nat) (Z0 : n0 ≤ h0.size) (H9000 : Fld Z h0 th "java/util/concurrent/TimeUnit" "scale" "J" (.long (1000000000 : Int64))) (H9001 : Fld Z h0 th "java/util/concurrent/TimeUnit" "maxMillis" "J" (.long (9223372036854775 : Int64))) (H9002 : Fld Z h0 th "java/util/concurrent/TimeUnit" "milliRatio" "I" (.int mr)) (hpx : ¬ px < (-(9223372036854775 : Int64))) :
    MetFree l own_y13 (head1 (Jvm.Cond.code own_y13 jdk_2799_method_9_code 7 (some .long) :: ws) ({ frames := 0, cells := 0, slots := 0, locals := 0 } : Room)) (fun a U => a = #[(.ref th), (.long px)] ∧ Z.Warmed39 U.vm ∧ U.heap = h0) (fun _ _ _ _ _ => True) (fun _ U o U' => ∃ v L, o = .returned v ∧ (own_tm_Q Z th px mr h0 n0) v U'.heap L ∧ FrameEnd U o U' L ({ frames := 0, cells := 0, slots := 0, locals := 0 } : Room).cells ({ frames := 0, cells := 0, slots := 0, locals := 0 } : Room).slots) := by
  refine MetFree.of_bodySF (plainFor_of_name own_tm_pn) hisR ?_
  intro p e s m args below meth c s₁ Bd hml0 hP hK
  obtain ⟨rfl, hZ, hh⟩ := hP
  have hx := Bd.exec
  have hby := Bd.bytes
  have hml : c.maxLocals = 7 := hml0
  have hown : s.vm.findClass "java/util/concurrent/TimeUnit" = some m.cls := findClass_of_methodNamed Bd.named
  have hnm := (name_of_methodNamed Bd.named Bd.method).1
  have hlk : meth.locks = false := Bd.notSynchronized
  have X0 : Stand p l e ({ frames := 0, cells := 0, slots := 0, locals := 0 } : Room) s m #[(.ref th), (.long px)] below meth c s₁ [] 0 0 := Stand.of_body Bd
  have e0 : s₁.heap = h0 := by rw [← hh, Bd.state]; rfl
  have N0 := Fr.nil n0
  have w_185 := hw _ (List.mem_of_getElem? (l := tables_1) (i := 185) rfl)
  have w_187 := hw _ (List.mem_of_getElem? (l := tables_1) (i := 187) rfl)
  have w_188 := hw _ (List.mem_of_getElem? (l := tables_1) (i := 188) rfl)
  have w_190 := hw _ (List.mem_of_getElem? (l := tables_1) (i := 190) rfl)
  have w_310 := hw _ (List.mem_of_getElem? (l := tables_1) (i := 310) rfl)
  show own_G p.tables e below (fun o U' => ∃ v L, o = .returned v ∧ (own_tm_Q Z th px mr h0 n0) v U'.heap L ∧ FrameEnd s o U' L ({ frames := 0, cells := 0, slots := 0, locals := 0 } : Room).cells ({ frames := 0, cells := 0, slots := 0, locals := 0 } : Room).slots) (s₁.setTop (entryFrame m #[(.ref th), (.long px)] 7))
  refine own_go (B := s₁.setTop (mkF m 0 #[rv th, .val (.long px), .second, .unset, .unset, .unset, .unset] [])) (fun t k => castTop (own_tm_ef m th px) k) ?_
  refine own_go (B := (s₁.setTop (mkF m 1 #[rv th, .val (.long px), .second, .unset, .unset, .unset, .unset] [(.ref th)]))) (fun t k => XS.aloadN X0.here hx rfl (hb hby own_tm_d0) rfl rfl k) ?_
  obtain ⟨T1, X1, e1, st1⟩ := getF X0 hx hZ hown (host := "") (Or.inl w_185) Via.refl e0 H9000 (g := (mkF m 1 #[rv th, .val (.long px), .second, .unset, .unset, .unset, .unset] [(.ref th)])) rfl rfl (hb hby own_tm_d1)
  refine own_go (B := (T1.setTop (mkF m 4 #[rv th, .val (.long px), .second, .unset, .unset, .unset, .unset] [(.long (1000000000 : Int64))]))) st1 ?_
  refine own_go (B := (T1.setTop (mkF m 5 #[rv th, .val (.long px), .second, .unset, .unset, .unset, .unset] [(.long (1000000000 : Int64)), (.long (1000000000 : Int64))]))) (fun t k => own_dup2L X1.here hx rfl (hb hby own_tm_d4) rfl rfl k) ?_
  refine own_go (B := (T1.setTop (mkF m 6 #[rv th, .val (.long px), .second, .val (.long (1000000000 : Int64)), .second, .unset, .unset] [(.long (1000000000 : Int64))]))) (fun t k => XS.lstoreN X1.here hx rfl (hb hby own_tm_d5) rfl (l' := #[rv th, .val (.long px), .second, .val (.long (1000000000 : Int64)), .second, .unset, .unset]) rfl k) ?_
  have lc2 := X1.ldc2Long hx hown (v := (1000000 : Int64)) (mvT hZ w_187) (g := (mkF m 6 #[rv th, .val (.long px), .second, .val (.long (1000000000 : Int64)), .second, .unset, .unset] [(.long (1000000000 : Int64))])) rfl (hb hby own_tm_d6)
  refine own_go (B := (T1.setTop (mkF m 9 #[rv th, .val (.long px), .second, .val (.long (1000000000 : Int64)), .second, .unset, .unset] [(.long (1000000 : Int64)), (.long (1000000000 : Int64))]))) lc2 ?_
  refine own_go (B := (T1.setTop (mkF m 10 #[rv th, .val (.long px), .second, .val (.long (1000000000 : Int64)), .second, .unset, .unset] [(.int (lcmpW (1000000000 : Int64) (1000000 : Int64)))]))) (fun t k => XS.lcmp (x := (1000000000 : Int64)) (y := (1000000 : Int64)) X1.here hx rfl (hb hby own_tm_d9) rfl k) ?_
  have hc10 : (1000000 : Int64) < (1000000000 : Int64) := (by decide)
  refine own_lifY X1 hx (hb hby own_tm_d10) (pc' := 33) (by decide) (by decide) hc10 ?_
  refine own_go (B := (T1.setTop (mkF m 34 #[rv th, .val (.long px), .second, .val (.long (1000000000 : Int64)), .second, .unset, .unset] [(.long px)]))) (fun t k => XS.lloadN X1.here hx rfl (hb hby own_tm_d33) rfl k) ?_
  refine own_go (B := (T1.setTop (mkF m 35 #[rv th, .val (.long px), .second, .val (.long (1000000000 : Int64)), .second, .unset, .unset] [(.ref th), (.long px)]))) (fun t k => XS.aloadN X1.here hx rfl (hb hby own_tm_d34) rfl rfl k) ?_
  obtain ⟨T3, X3, e3, st3⟩ := getF X1 hx hZ hown (host := "") (Or.inl w_188) Via.refl e1 H9001 (g := (mkF m 35 #[rv th, .val (.long px), .second, .val (.long (1000000000 : Int64)), .second, .unset, .unset] [(.ref th), (.long px)])) rfl rfl (hb hby own_tm_d35)
  refine own_go (B := (T3.setTop (mkF m 38 #[rv th, .val (.long px), .second, .val (.long (1000000000 : Int64)), .second, .unset, .unset] [(.long (9223372036854775 : Int64)), (.long px)]))) st3 ?_
  refine own_go (B := (T3.setTop (mkF m 39 #[rv th, .val (.long px), .second, .val (.long (1000000000 : Int64)), .second, .unset, .unset] [(.long (9223372036854775 : Int64)), (.long (9223372036854775 : Int64)), (.long px)]))) (fun t k => own_dup2L X3.here hx rfl (hb hby own_tm_d38) rfl rfl k) ?_
  refine own_go (B := (T3.setTop (mkF m 41 #[rv th, .val (.long px), .second, .val (.long (1000000000 : Int64)), .second, .val (.long (9223372036854775 : Int64)), .second] [(.long (9223372036854775 : Int64)), (.long px)]))) (fun t k => XS.lstore X3.here hx rfl (hb hby own_tm_d39) rfl (l' := #[rv th, .val (.long px), .second, .val (.long (1000000000 : Int64)), .second, .val (.long (9223372036854775 : Int64)), .second]) rfl k) ?_
  refine own_go (B := (T3.setTop (mkF m 42 #[rv th, .val (.long px), .second, .val (.long (1000000000 : Int64)), .second, .val (.long (9223372036854775 : Int64)), .second] [(.int (lcmpW px (9223372036854775 : Int64)))]))) (fun t k => XS.lcmp (x := px) (y := (9223372036854775 : Int64)) X3.here hx rfl (hb hby own_tm_d41) rfl k) ?_
  refine own_lif X3 hx (hb hby own_tm_d42) (pc' := 49) (pn := 45) (by decide) (by decide) rfl (fun (hc42 : ¬ (9223372036854775 : Int64) < px) => ?_) (fun (hc42 : (9223372036854775 : Int64) < px) => ?_)
  · refine own_go (B := (T3.setTop (mkF m 50 #[rv th, .val (.long px), .second, .val (.long (1000000000 : Int64)), .second, .val (.long (9223372036854775 : Int64)), .second] [(.long px)]))) (fun t k => XS.lloadN X3.here hx rfl (hb hby own_tm_d49) rfl k) ?_
    refine own_go (B := (T3.setTop (mkF m 52 #[rv th, .val (.long px), .second, .val (.long (1000000000 : Int64)), .second, .val (.long (9223372036854775 : Int64)), .second] [(.long (9223372036854775 : Int64)), (.long px)]))) (fun t k => XS.lload X3.here hx rfl (hb hby own_tm_d50) rfl k) ?_
    refine own_go (B := (T3.setTop (mkF m 53 #[rv th, .val (.long px), .second, .val (.long (1000000000 : Int64)), .second, .val (.long (9223372036854775 : Int64)), .second] [(.long (-(9223372036854775 : Int64))), (.long px)]))) (fun t k => XS.lneg X3.here hx rfl (hb hby own_tm_d52) rfl k) ?_
    refine own_go (B := (T3.setTop (mkF m 54 #[rv th, .val (.long px), .second, .val (.long (1000000000 : Int64)), .second, .val (.long (9223372036854775 : Int64)), .second] [(.int (lcmpW px (-(9223372036854775 : Int64))))]))) (fun t k => XS.lcmp (x := px) (y := (-(9223372036854775 : Int64))) X3.here hx rfl (hb hby own_tm_d53) rfl k) ?_
    have hc54 : ¬ px < (-(9223372036854775 : Int64)) := hpx
    refine own_lifY X3 hx (hb hby own_tm_d54) (pc' := 61) (by decide) (by decide) hc54 ?_
    refine own_go (B := (T3.setTop (mkF m 62 #[rv th, .val (.long px), .second, .val (.long (1000000000 : Int64)), .second, .val (.long (9223372036854775 : Int64)), .second] [(.long px)]))) (fun t k => XS.lloadN X3.here hx rfl (hb hby own_tm_d61) rfl k) ?_
    refine own_go (B := (T3.setTop (mkF m 63 #[rv th, .val (.long px), .second, .val (.long (1000000000 : Int64)), .second, .val (.long (9223372036854775 : Int64)), .second] [(.ref th), (.long px)]))) (fun t k => XS.aloadN X3.here hx rfl (hb hby own_tm_d62) rfl rfl k) ?_
    obtain ⟨T4, X4, e4, st4⟩ := getF X3 hx hZ hown (host := "") (Or.inl w_190) Via.refl e3 H9002 (g := (mkF m 63 #[rv th, .val (.long px), .second, .val (.long (1000000000 : Int64)), .second, .val (.long (9223372036854775 : Int64)), .second] [(.ref th), (.long px)])) rfl rfl (hb hby own_tm_d63)
    refine own_go (B := (T4.setTop (mkF m 66 #[rv th, .val (.long px), .second, .val (.long (1000000000 : Int64)), .second, .val (.long (9223372036854775 : Int64)), .second] [(.int mr), (.long px)]))) st4 ?_
    refine own_go (B := (T4.setTop (mkF m 67 #[rv th, .val (.long px), .second, .val (.long (1000000000 : Int64)), .second, .val (.long (9223372036854775 : Int64)), .second] [(.long (mr.toInt64)), (.long px)]))) (fun t k => XS.i2l X4.here hx rfl (hb hby own_tm_d66) rfl k) ?_
    refine own_go (B := (T4.setTop (mkF m 68 #[rv th, .val (.long px), .second, .val (.long (1000000000 : Int64)), .second, .val (.long (9223372036854775 : Int64)), .second] [(.long (px * (mr.toInt64)))]))) (fun t k => XS.lmul (x := px) (y := (mr.toInt64)) X4.here hx rfl (hb hby own_tm_d67) rfl k) ?_
    exact own_retL X4 hx hlk Bd.returns (hb hby own_tm_d68) (own_b rfl) (own_b rfl) (Q := (own_tm_Q Z th px mr h0 n0)) ⟨_, rfl, N0, e4⟩
  · have lc5 := X3.ldc2Long hx hown (v := (9223372036854775807 : Int64)) (mvT hZ w_310) (g := (mkF m 45 #[rv th, .val (.long px), .second, .val (.long (1000000000 : Int64)), .second, .val (.long (9223372036854775 : Int64)), .second] [])) rfl (hb hby own_tm_d45)
    refine own_go (B := (T3.setTop (mkF m 48 #[rv th, .val (.long px), .second, .val (.long (1000000000 : Int64)), .second, .val (.long (9223372036854775 : Int64)), .second] [(.long (9223372036854775807 : Int64))]))) lc5 ?_
    exact own_retL X3 hx hlk Bd.returns (hb hby own_tm_d48) (own_b rfl) (own_b rfl) (Q := (own_tm_Q Z th px mr h0 n0)) ⟨_, rfl, N0, e3⟩

theorem own_tn_d0 : decode jdk_2799_method_7_code 0 = .ok (.aload_n 0, 1) := by decide +kernel
theorem own_tn_d1 : decode jdk_2799_method_7_code 1 = .ok (.getfield 44, 3) := by decide +kernel
theorem own_tn_d4 : decode jdk_2799_method_7_code 4 = .ok (.dup2, 1) := by decide +kernel
theorem own_tn_d5 : decode jdk_2799_method_7_code 5 = .ok (.lstore_n 3, 1) := by decide +kernel
theorem own_tn_d6 : decode jdk_2799_method_7_code 6 = .ok (.lconst 1, 1) := by decide +kernel
theorem own_tn_d7 : decode jdk_2799_method_7_code 7 = .ok (.lcmp, 1) := by decide +kernel
theorem own_tn_d8 : decode jdk_2799_method_7_code 8 = .ok (.ifCond .ne 5, 3) := by decide +kernel
theorem own_tn_d13 : decode jdk_2799_method_7_code 13 = .ok (.lload_n 1, 1) := by decide +kernel
theorem own_tn_d14 : decode jdk_2799_method_7_code 14 = .ok (.aload_n 0, 1) := by decide +kernel
theorem own_tn_d15 : decode jdk_2799_method_7_code 15 = .ok (.getfield 52, 3) := by decide +kernel
theorem own_tn_d18 : decode jdk_2799_method_7_code 18 = .ok (.dup2, 1) := by decide +kernel
theorem own_tn_d19 : decode jdk_2799_method_7_code 19 = .ok (.lstore 5, 2) := by decide +kernel
theorem own_tn_d21 : decode jdk_2799_method_7_code 21 = .ok (.lcmp, 1) := by decide +kernel
theorem own_tn_d22 : decode jdk_2799_method_7_code 22 = .ok (.ifCond .le 7, 3) := by decide +kernel
theorem own_tn_d25 : decode jdk_2799_method_7_code 25 = .ok (.ldc2_w 50, 3) := by decide +kernel
theorem own_tn_d28 : decode jdk_2799_method_7_code 28 = .ok (.lreturn, 1) := by decide +kernel
theorem own_tn_d29 : decode jdk_2799_method_7_code 29 = .ok (.lload_n 1, 1) := by decide +kernel
theorem own_tn_d30 : decode jdk_2799_method_7_code 30 = .ok (.lload 5, 2) := by decide +kernel
theorem own_tn_d32 : decode jdk_2799_method_7_code 32 = .ok (.lneg, 1) := by decide +kernel
theorem own_tn_d33 : decode jdk_2799_method_7_code 33 = .ok (.lcmp, 1) := by decide +kernel
theorem own_tn_d34 : decode jdk_2799_method_7_code 34 = .ok (.ifCond .ge 7, 3) := by decide +kernel
theorem own_tn_d41 : decode jdk_2799_method_7_code 41 = .ok (.lload_n 1, 1) := by decide +kernel
theorem own_tn_d42 : decode jdk_2799_method_7_code 42 = .ok (.lload_n 3, 1) := by decide +kernel
theorem own_tn_d43 : decode jdk_2799_method_7_code 43 = .ok (.lmul, 1) := by decide +kernel
theorem own_tn_d44 : decode jdk_2799_method_7_code 44 = .ok (.lreturn, 1) := by decide +kernel
theorem own_tn_pn : plainName "java/util/concurrent/TimeUnit" = true := by first | (simp [plainName, overriddenIn]; done) | decide +kernel
theorem own_tn_ef (m : MethodId) (th : Addr) (px : Int64) : entryFrame m #[(.ref th), (.long px)] 7 = mkF m 0 #[rv th, .val (.long px), .second, .unset, .unset, .unset, .unset] [] := by first | (simp [entryFrame, mkF, argsToLocals, Value.category]; done) | rfl
def own_tn_Q (Z : State) (th : Addr) (px : Int64) (sc mx : Int64) (h0 : Heap) (n0 : Nat) (v : Option Value) (h : Heap) (L : List Loc) : Prop := v = some (.long (own_nan px sc mx)) ∧ Fr n0 L ∧ h = h0
set_option maxRecDepth 65536 in
set_option maxHeartbeats 40000000 in
theorem own_tn (l : Launch) (Z : State) (a0 : Array Value) (hw : ∀ d ∈ tables_1, d.before a0 Z = true) (ws : List Jvm.Cond) (th : Addr) (px : Int64) (sc mx : Int64) (h0 : Heap) (n0 : Nat) (F0 : Fld Z h0 th "java/util/concurrent/TimeUnit" "scale" "J" (.long sc)) (F1 : Fld Z h0 th "java/util/concurrent/TimeUnit" "maxNanos" "J" (.long mx)) (hs : ¬ sc = (1 : Int64)) (hpx : ¬ px < (-mx)) :
    MetFree l own_y15 (head1 (Jvm.Cond.code own_y15 jdk_2799_method_7_code 7 (some .long) :: ws) ({ frames := 0, cells := 0, slots := 0, locals := 0 } : Room)) (fun a U => a = #[(.ref th), (.long px)] ∧ Z.Warmed39 U.vm ∧ U.heap = h0) (fun _ _ _ _ _ => True) (fun _ U o U' => ∃ v L, o = .returned v ∧ (own_tn_Q Z th px sc mx h0 n0) v U'.heap L ∧ FrameEnd U o U' L ({ frames := 0, cells := 0, slots := 0, locals := 0 } : Room).cells ({ frames := 0, cells := 0, slots := 0, locals := 0 } : Room).slots) := by
  refine MetFree.of_bodySF (plainFor_of_name own_tn_pn) hisR ?_
  intro p e s m args below meth c s₁ Bd hml0 hP hK
  obtain ⟨rfl, hZ, hh⟩ := hP
  have hx := Bd.exec
  have hby := Bd.bytes
  have hml : c.maxLocals = 7 := hml0
  have hown : s.vm.findClass "java/util/concurrent/TimeUnit" = some m.cls := findClass_of_methodNamed Bd.named
  have hnm := (name_of_methodNamed Bd.named Bd.method).1
  have hlk : meth.locks = false := Bd.notSynchronized
  have X0 : Stand p l e ({ frames := 0, cells := 0, slots := 0, locals := 0 } : Room) s m #[(.ref th), (.long px)] below meth c s₁ [] 0 0 := Stand.of_body Bd
  have e0 : s₁.heap = h0 := by rw [← hh, Bd.state]; rfl
  have N0 := Fr.nil n0
  have w_185 := hw _ (List.mem_of_getElem? (l := tables_1) (i := 185) rfl)
  have w_205 := hw _ (List.mem_of_getElem? (l := tables_1) (i := 205) rfl)
  have w_310 := hw _ (List.mem_of_getElem? (l := tables_1) (i := 310) rfl)
  show own_G p.tables e below (fun o U' => ∃ v L, o = .returned v ∧ (own_tn_Q Z th px sc mx h0 n0) v U'.heap L ∧ FrameEnd s o U' L ({ frames := 0, cells := 0, slots := 0, locals := 0 } : Room).cells ({ frames := 0, cells := 0, slots := 0, locals := 0 } : Room).slots) (s₁.setTop (entryFrame m #[(.ref th), (.long px)] 7))
  refine own_go (B := s₁.setTop (mkF m 0 #[rv th, .val (.long px), .second, .unset, .unset, .unset, .unset] [])) (fun t k => castTop (own_tn_ef m th px) k) ?_
  refine own_go (B := (s₁.setTop (mkF m 1 #[rv th, .val (.long px), .second, .unset, .unset, .unset, .unset] [(.ref th)]))) (fun t k => XS.aloadN X0.here hx rfl (hb hby own_tn_d0) rfl rfl k) ?_
  obtain ⟨T1, X1, e1, st1⟩ := getF X0 hx hZ hown (host := "") (Or.inl w_185) Via.refl e0 F0 (g := (mkF m 1 #[rv th, .val (.long px), .second, .unset, .unset, .unset, .unset] [(.ref th)])) rfl rfl (hb hby own_tn_d1)
  refine own_go (B := (T1.setTop (mkF m 4 #[rv th, .val (.long px), .second, .unset, .unset, .unset, .unset] [(.long sc)]))) st1 ?_
  refine own_go (B := (T1.setTop (mkF m 5 #[rv th, .val (.long px), .second, .unset, .unset, .unset, .unset] [(.long sc), (.long sc)]))) (fun t k => own_dup2L X1.here hx rfl (hb hby own_tn_d4) rfl rfl k) ?_
  refine own_go (B := (T1.setTop (mkF m 6 #[rv th, .val (.long px), .second, .val (.long sc), .second, .unset, .unset] [(.long sc)]))) (fun t k => XS.lstoreN X1.here hx rfl (hb hby own_tn_d5) rfl (l' := #[rv th, .val (.long px), .second, .val (.long sc), .second, .unset, .unset]) rfl k) ?_
  refine own_go (B := (T1.setTop (mkF m 7 #[rv th, .val (.long px), .second, .val (.long sc), .second, .unset, .unset] [(.long (1 : Int64)), (.long sc)]))) (fun t k => XS.lconst X1.here hx rfl (hb hby own_tn_d6) k) ?_
  refine own_go (B := (T1.setTop (mkF m 8 #[rv th, .val (.long px), .second, .val (.long sc), .second, .unset, .unset] [(.int (lcmpW sc (1 : Int64)))]))) (fun t k => XS.lcmp (x := sc) (y := (1 : Int64)) X1.here hx rfl (hb hby own_tn_d7) rfl k) ?_
  have hc8 : ¬ sc = (1 : Int64) := hs
  refine own_lifY X1 hx (hb hby own_tn_d8) (pc' := 13) (by decide) (by decide) hc8 ?_
  refine own_go (B := (T1.setTop (mkF m 14 #[rv th, .val (.long px), .second, .val (.long sc), .second, .unset, .unset] [(.long px)]))) (fun t k => XS.lloadN X1.here hx rfl (hb hby own_tn_d13) rfl k) ?_
  refine own_go (B := (T1.setTop (mkF m 15 #[rv th, .val (.long px), .second, .val (.long sc), .second, .unset, .unset] [(.ref th), (.long px)]))) (fun t k => XS.aloadN X1.here hx rfl (hb hby own_tn_d14) rfl rfl k) ?_
  obtain ⟨T2, X2, e2, st2⟩ := getF X1 hx hZ hown (host := "") (Or.inl w_205) Via.refl e1 F1 (g := (mkF m 15 #[rv th, .val (.long px), .second, .val (.long sc), .second, .unset, .unset] [(.ref th), (.long px)])) rfl rfl (hb hby own_tn_d15)
  refine own_go (B := (T2.setTop (mkF m 18 #[rv th, .val (.long px), .second, .val (.long sc), .second, .unset, .unset] [(.long mx), (.long px)]))) st2 ?_
  refine own_go (B := (T2.setTop (mkF m 19 #[rv th, .val (.long px), .second, .val (.long sc), .second, .unset, .unset] [(.long mx), (.long mx), (.long px)]))) (fun t k => own_dup2L X2.here hx rfl (hb hby own_tn_d18) rfl rfl k) ?_
  refine own_go (B := (T2.setTop (mkF m 21 #[rv th, .val (.long px), .second, .val (.long sc), .second, .val (.long mx), .second] [(.long mx), (.long px)]))) (fun t k => XS.lstore X2.here hx rfl (hb hby own_tn_d19) rfl (l' := #[rv th, .val (.long px), .second, .val (.long sc), .second, .val (.long mx), .second]) rfl k) ?_
  refine own_go (B := (T2.setTop (mkF m 22 #[rv th, .val (.long px), .second, .val (.long sc), .second, .val (.long mx), .second] [(.int (lcmpW px mx))]))) (fun t k => XS.lcmp (x := px) (y := mx) X2.here hx rfl (hb hby own_tn_d21) rfl k) ?_
  refine own_lif X2 hx (hb hby own_tn_d22) (pc' := 29) (pn := 25) (by decide) (by decide) rfl (fun (hc22 : ¬ mx < px) => ?_) (fun (hc22 : mx < px) => ?_)
  · refine own_go (B := (T2.setTop (mkF m 30 #[rv th, .val (.long px), .second, .val (.long sc), .second, .val (.long mx), .second] [(.long px)]))) (fun t k => XS.lloadN X2.here hx rfl (hb hby own_tn_d29) rfl k) ?_
    refine own_go (B := (T2.setTop (mkF m 32 #[rv th, .val (.long px), .second, .val (.long sc), .second, .val (.long mx), .second] [(.long mx), (.long px)]))) (fun t k => XS.lload X2.here hx rfl (hb hby own_tn_d30) rfl k) ?_
    refine own_go (B := (T2.setTop (mkF m 33 #[rv th, .val (.long px), .second, .val (.long sc), .second, .val (.long mx), .second] [(.long (-mx)), (.long px)]))) (fun t k => XS.lneg X2.here hx rfl (hb hby own_tn_d32) rfl k) ?_
    refine own_go (B := (T2.setTop (mkF m 34 #[rv th, .val (.long px), .second, .val (.long sc), .second, .val (.long mx), .second] [(.int (lcmpW px (-mx)))]))) (fun t k => XS.lcmp (x := px) (y := (-mx)) X2.here hx rfl (hb hby own_tn_d33) rfl k) ?_
    have hc34 : ¬ px < (-mx) := hpx
    refine own_lifY X2 hx (hb hby own_tn_d34) (pc' := 41) (by decide) (by decide) hc34 ?_
    refine own_go (B := (T2.setTop (mkF m 42 #[rv th, .val (.long px), .second, .val (.long sc), .second, .val (.long mx), .second] [(.long px)]))) (fun t k => XS.lloadN X2.here hx rfl (hb hby own_tn_d41) rfl k) ?_
    refine own_go (B := (T2.setTop (mkF m 43 #[rv th, .val (.long px), .second, .val (.long sc), .second, .val (.long mx), .second] [(.long sc), (.long px)]))) (fun t k => XS.lloadN X2.here hx rfl (hb hby own_tn_d42) rfl k) ?_
    refine own_go (B := (T2.setTop (mkF m 44 #[rv th, .val (.long px), .second, .val (.long sc), .second, .val (.long mx), .second] [(.long (px * sc))]))) (fun t k => XS.lmul (x := px) (y := sc) X2.here hx rfl (hb hby own_tn_d43) rfl k) ?_
    exact own_retL X2 hx hlk Bd.returns (hb hby own_tn_d44) (own_b rfl) (own_b rfl) (Q := (own_tn_Q Z th px sc mx h0 n0)) ⟨by rw [own_nan, if_neg hc22], N0, e2⟩
  · have lc3 := X2.ldc2Long hx hown (v := (9223372036854775807 : Int64)) (mvT hZ w_310) (g := (mkF m 25 #[rv th, .val (.long px), .second, .val (.long sc), .second, .val (.long mx), .second] [])) rfl (hb hby own_tn_d25)
    refine own_go (B := (T2.setTop (mkF m 28 #[rv th, .val (.long px), .second, .val (.long sc), .second, .val (.long mx), .second] [(.long (9223372036854775807 : Int64))]))) lc3 ?_
    exact own_retL X2 hx hlk Bd.returns (hb hby own_tn_d28) (own_b rfl) (own_b rfl) (Q := (own_tn_Q Z th px sc mx h0 n0)) ⟨by rw [own_nan, if_pos hc22], N0, e2⟩

theorem own_hv_d0 : decode prog_46_method_1_code 0 = .ok (.aload_n 0, 1) := by decide +kernel
theorem own_hv_d1 : decode prog_46_method_1_code 1 = .ok (.invokespecial 1, 3) := by decide +kernel
theorem own_hv_d4 : decode prog_46_method_1_code 4 = .ok (.aload_n 0, 1) := by decide +kernel
theorem own_hv_d5 : decode prog_46_method_1_code 5 = .ok (.new 7, 3) := by decide +kernel
theorem own_hv_d8 : decode prog_46_method_1_code 8 = .ok (.dup, 1) := by decide +kernel
theorem own_hv_d9 : decode prog_46_method_1_code 9 = .ok (.invokespecial 9, 3) := by decide +kernel
theorem own_hv_d12 : decode prog_46_method_1_code 12 = .ok (.putfield 10, 3) := by decide +kernel
theorem own_hv_d15 : decode prog_46_method_1_code 15 = .ok (.aload_n 0, 1) := by decide +kernel
theorem own_hv_d16 : decode prog_46_method_1_code 16 = .ok (.new 16, 3) := by decide +kernel
theorem own_hv_d19 : decode prog_46_method_1_code 19 = .ok (.dup, 1) := by decide +kernel
theorem own_hv_d20 : decode prog_46_method_1_code 20 = .ok (.invokespecial 18, 3) := by decide +kernel
theorem own_hv_d23 : decode prog_46_method_1_code 23 = .ok (.putfield 19, 3) := by decide +kernel
theorem own_hv_d26 : decode prog_46_method_1_code 26 = .ok (.aload_n 0, 1) := by decide +kernel
theorem own_hv_d27 : decode prog_46_method_1_code 27 = .ok (.new 23, 3) := by decide +kernel
theorem own_hv_d30 : decode prog_46_method_1_code 30 = .ok (.dup, 1) := by decide +kernel
theorem own_hv_d31 : decode prog_46_method_1_code 31 = .ok (.invokespecial 25, 3) := by decide +kernel
theorem own_hv_d34 : decode prog_46_method_1_code 34 = .ok (.putfield 26, 3) := by decide +kernel
theorem own_hv_d37 : decode prog_46_method_1_code 37 = .ok (.aload_n 0, 1) := by decide +kernel
theorem own_hv_d38 : decode prog_46_method_1_code 38 = .ok (.aload_n 1, 1) := by decide +kernel
theorem own_hv_d39 : decode prog_46_method_1_code 39 = .ok (.putfield 30, 3) := by decide +kernel
theorem own_hv_d42 : decode prog_46_method_1_code 42 = .ok (.aload_n 0, 1) := by decide +kernel
theorem own_hv_d43 : decode prog_46_method_1_code 43 = .ok (.getstatic 34, 3) := by decide +kernel
theorem own_hv_d46 : decode prog_46_method_1_code 46 = .ok (.aload_n 1, 1) := by decide +kernel
theorem own_hv_d47 : decode prog_46_method_1_code 47 = .ok (.invokevirtual 40, 3) := by decide +kernel
theorem own_hv_d50 : decode prog_46_method_1_code 50 = .ok (.i2l, 1) := by decide +kernel
theorem own_hv_d51 : decode prog_46_method_1_code 51 = .ok (.invokevirtual 46, 3) := by decide +kernel
theorem own_hv_d54 : decode prog_46_method_1_code 54 = .ok (.putfield 50, 3) := by decide +kernel
theorem own_hv_d57 : decode prog_46_method_1_code 57 = .ok (.aload_n 0, 1) := by decide +kernel
theorem own_hv_d58 : decode prog_46_method_1_code 58 = .ok (.iconst 4, 1) := by decide +kernel
theorem own_hv_d59 : decode prog_46_method_1_code 59 = .ok (.anewarray 56, 3) := by decide +kernel
theorem own_hv_d62 : decode prog_46_method_1_code 62 = .ok (.putfield 58, 3) := by decide +kernel
theorem own_hv_d65 : decode prog_46_method_1_code 65 = .ok (.return_, 1) := by decide +kernel
theorem own_hv_pn : plainName "com/example/sluicegate/sluicegate/rule/HotValues" = true := by first | (simp [plainName, overriddenIn]; done) | decide +kernel
theorem own_hv_ef (m : MethodId) (th : Addr) (ru : Addr) : entryFrame m #[(.ref th), (.ref ru)] 2 = mkF m 0 #[rv th, rv ru] [] := by first | (simp [entryFrame, mkF, argsToLocals, Value.category]; done) | rfl
def own_hv_Q (Z : State) (th : Addr) (ru : Addr) (aSec : Addr) (mr du : Int32) (h0 : Heap) (n0 : Nat) (v : Option Value) (h : Heap) (L : List Loc) : Prop := v = none ∧ Fr n0 L ∧ Keep h0 h [th] ∧ Exa Z h th "com/example/sluicegate/sluicegate/rule/PacedValues" ∧ Fld Z h th "com/example/sluicegate/sluicegate/rule/PacedValues" "durationNanos" "J" (.long (0 : Int64)) ∧ Fld Z h th "com/example/sluicegate/sluicegate/rule/PacedValues" "maxQueueingNanos" "J" (.long (0 : Int64))
set_option maxRecDepth 65536 in
set_option maxHeartbeats 40000000 in
theorem own_hv (l : Launch) (Z : State) (a0 : Array Value) (hw : ∀ d ∈ tables_1, d.before a0 Z = true) (ws : List Jvm.Cond) (th : Addr) (ru : Addr) (aSec : Addr) (mr du : Int32) (h0 : Heap) (n0 : Nat) (Z0 : n0 ≤ h0.size) (H9000 : Exa Z h0 th "com/example/sluicegate/sluicegate/rule/PacedValues") (H9001 : n0 ≤ th) (H9002 : Fld Z h0 th "com/example/sluicegate/sluicegate/rule/HotValues" "shards" "Lcom/example/sluicegate/sluicegate/rule/ValueShards;" .null) (H9003 : Fld Z h0 th "com/example/sluicegate/sluicegate/rule/HotValues" "kept" "Ljava/util/concurrent/atomic/AtomicInteger;" .null) (H9004 : Fld Z h0 th "com/example/sluicegate/sluicegate/rule/HotValues" "keptEver" "Ljava/util/concurrent/atomic/AtomicLong;" .null) (H9005 : Fld Z h0 th "com/example/sluicegate/sluicegate/rule/HotValues" "rule" "Lcom/example/sluicegate/sluicegate/rule/HotParameterRule;" .null) (H9006 : Fld Z h0 th "com/example/sluicegate/sluicegate/rule/HotValues" "durationMillis" "J" (.long (0 : Int64))) (H9007 : Fld Z h0 th "com/example/sluicegate/sluicegate/rule/HotValues" "setAsideByPlace" "[Ljava/util/Map;" .null) (H9008 : Fld Z h0 th "com/example/sluicegate/sluicegate/rule/PacedValues" "durationNanos" "J" (.long (0 : Int64))) (H9009 : Fld Z h0 th "com/example/sluicegate/sluicegate/rule/PacedValues" "maxQueueingNanos" "J" (.long (0 : Int64))) (H9010 : Exa Z h0 ru "com/example/sluicegate/sluicegate/rule/HotParameterRule") (H9011 : Fld Z h0 ru "com/example/sluicegate/sluicegate/rule/HotParameterRule" "durationSeconds" "I" (.int du)) (H9012 : th ≠ ru) (H9013 : Sta Z h0 "com/example/sluicegate/sluicegate/rule/ValueShards" "SHARDS" "I" (.int (16 : Int32))) (H9014 : Sta Z h0 "java/util/concurrent/TimeUnit" "SECONDS" "Ljava/util/concurrent/TimeUnit;" (.ref aSec)) (H9015 : Exa Z h0 aSec "java/util/concurrent/TimeUnit") (H9016 : aSec < n0) (H9017 : Fld Z h0 aSec "java/util/concurrent/TimeUnit" "scale" "J" (.long (1000000000 : Int64))) (H9018 : Fld Z h0 aSec "java/util/concurrent/TimeUnit" "maxNanos" "J" (.long (9223372036 : Int64))) (H9019 : Fld Z h0 aSec "java/util/concurrent/TimeUnit" "maxMillis" "J" (.long (9223372036854775 : Int64))) (H9020 : Fld Z h0 aSec "java/util/concurrent/TimeUnit" "milliRatio" "I" (.int mr)) (hdu : ¬ du < (1 : Int32)) :
    MetFree l own_y14 (head1 (Jvm.Cond.code own_y14 prog_46_method_1_code 2 none :: ws) ({ frames := 5, cells := 55, slots := 779, locals := 69 } : Room)) (fun a U => a = #[(.ref th), (.ref ru)] ∧ Z.Warmed39 U.vm ∧ U.heap = h0) (fun _ _ _ _ _ => True) (fun _ U o U' => ∃ v L, o = .returned v ∧ (own_hv_Q Z th ru aSec mr du h0 n0) v U'.heap L ∧ FrameEnd U o U' L ({ frames := 5, cells := 55, slots := 779, locals := 69 } : Room).cells ({ frames := 5, cells := 55, slots := 779, locals := 69 } : Room).slots) := by
  refine MetFree.of_bodySF (plainFor_of_name own_hv_pn) hisR ?_
  intro p e s m args below meth c s₁ Bd hml0 hP hK
  obtain ⟨rfl, hZ, hh⟩ := hP
  have hx := Bd.exec
  have hby := Bd.bytes
  have hml : c.maxLocals = 2 := hml0
  have hown : s.vm.findClass "com/example/sluicegate/sluicegate/rule/HotValues" = some m.cls := findClass_of_methodNamed Bd.named
  have hnm := (name_of_methodNamed Bd.named Bd.method).1
  have hlk : meth.locks = false := Bd.notSynchronized
  have X0 : Stand p l e ({ frames := 5, cells := 55, slots := 779, locals := 69 } : Room) s m #[(.ref th), (.ref ru)] below meth c s₁ [] 0 0 := Stand.of_body Bd
  have e0 : s₁.heap = h0 := by rw [← hh, Bd.state]; rfl
  have N0 := Fr.nil n0
  have w_10 := hw _ (List.mem_of_getElem? (l := tables_1) (i := 10) rfl)
  have w_38 := hw _ (List.mem_of_getElem? (l := tables_1) (i := 38) rfl)
  have w_39 := hw _ (List.mem_of_getElem? (l := tables_1) (i := 39) rfl)
  have w_79 := hw _ (List.mem_of_getElem? (l := tables_1) (i := 79) rfl)
  have w_89 := hw _ (List.mem_of_getElem? (l := tables_1) (i := 89) rfl)
  have w_90 := hw _ (List.mem_of_getElem? (l := tables_1) (i := 90) rfl)
  have w_91 := hw _ (List.mem_of_getElem? (l := tables_1) (i := 91) rfl)
  have w_92 := hw _ (List.mem_of_getElem? (l := tables_1) (i := 92) rfl)
  have w_93 := hw _ (List.mem_of_getElem? (l := tables_1) (i := 93) rfl)
  have w_94 := hw _ (List.mem_of_getElem? (l := tables_1) (i := 94) rfl)
  have w_95 := hw _ (List.mem_of_getElem? (l := tables_1) (i := 95) rfl)
  have w_108 := hw _ (List.mem_of_getElem? (l := tables_1) (i := 108) rfl)
  have w_114 := hw _ (List.mem_of_getElem? (l := tables_1) (i := 114) rfl)
  have w_144 := hw _ (List.mem_of_getElem? (l := tables_1) (i := 144) rfl)
  have w_145 := hw _ (List.mem_of_getElem? (l := tables_1) (i := 145) rfl)
  have w_146 := hw _ (List.mem_of_getElem? (l := tables_1) (i := 146) rfl)
  have w_147 := hw _ (List.mem_of_getElem? (l := tables_1) (i := 147) rfl)
  have w_148 := hw _ (List.mem_of_getElem? (l := tables_1) (i := 148) rfl)
  have w_149 := hw _ (List.mem_of_getElem? (l := tables_1) (i := 149) rfl)
  have w_150 := hw _ (List.mem_of_getElem? (l := tables_1) (i := 150) rfl)
  have w_151 := hw _ (List.mem_of_getElem? (l := tables_1) (i := 151) rfl)
  have w_159 := hw _ (List.mem_of_getElem? (l := tables_1) (i := 159) rfl)
  have w_160 := hw _ (List.mem_of_getElem? (l := tables_1) (i := 160) rfl)
  have w_161 := hw _ (List.mem_of_getElem? (l := tables_1) (i := 161) rfl)
  have w_162 := hw _ (List.mem_of_getElem? (l := tables_1) (i := 162) rfl)
  have w_163 := hw _ (List.mem_of_getElem? (l := tables_1) (i := 163) rfl)
  have w_164 := hw _ (List.mem_of_getElem? (l := tables_1) (i := 164) rfl)
  have w_165 := hw _ (List.mem_of_getElem? (l := tables_1) (i := 165) rfl)
  have w_166 := hw _ (List.mem_of_getElem? (l := tables_1) (i := 166) rfl)
  have w_169 := hw _ (List.mem_of_getElem? (l := tables_1) (i := 169) rfl)
  have w_170 := hw _ (List.mem_of_getElem? (l := tables_1) (i := 170) rfl)
  have w_171 := hw _ (List.mem_of_getElem? (l := tables_1) (i := 171) rfl)
  have w_172 := hw _ (List.mem_of_getElem? (l := tables_1) (i := 172) rfl)
  have w_173 := hw _ (List.mem_of_getElem? (l := tables_1) (i := 173) rfl)
  have w_174 := hw _ (List.mem_of_getElem? (l := tables_1) (i := 174) rfl)
  have w_175 := hw _ (List.mem_of_getElem? (l := tables_1) (i := 175) rfl)
  have w_176 := hw _ (List.mem_of_getElem? (l := tables_1) (i := 176) rfl)
  have w_177 := hw _ (List.mem_of_getElem? (l := tables_1) (i := 177) rfl)
  have w_178 := hw _ (List.mem_of_getElem? (l := tables_1) (i := 178) rfl)
  have w_179 := hw _ (List.mem_of_getElem? (l := tables_1) (i := 179) rfl)
  have w_180 := hw _ (List.mem_of_getElem? (l := tables_1) (i := 180) rfl)
  have w_181 := hw _ (List.mem_of_getElem? (l := tables_1) (i := 181) rfl)
  have w_182 := hw _ (List.mem_of_getElem? (l := tables_1) (i := 182) rfl)
  have w_183 := hw _ (List.mem_of_getElem? (l := tables_1) (i := 183) rfl)
  have w_184 := hw _ (List.mem_of_getElem? (l := tables_1) (i := 184) rfl)
  have w_192 := hw _ (List.mem_of_getElem? (l := tables_1) (i := 192) rfl)
  have w_193 := hw _ (List.mem_of_getElem? (l := tables_1) (i := 193) rfl)
  have w_194 := hw _ (List.mem_of_getElem? (l := tables_1) (i := 194) rfl)
  have w_195 := hw _ (List.mem_of_getElem? (l := tables_1) (i := 195) rfl)
  have w_196 := hw _ (List.mem_of_getElem? (l := tables_1) (i := 196) rfl)
  have w_197 := hw _ (List.mem_of_getElem? (l := tables_1) (i := 197) rfl)
  have w_208 := hw _ (List.mem_of_getElem? (l := tables_1) (i := 208) rfl)
  have w_216 := hw _ (List.mem_of_getElem? (l := tables_1) (i := 216) rfl)
  show own_G p.tables e below (fun o U' => ∃ v L, o = .returned v ∧ (own_hv_Q Z th ru aSec mr du h0 n0) v U'.heap L ∧ FrameEnd s o U' L ({ frames := 5, cells := 55, slots := 779, locals := 69 } : Room).cells ({ frames := 5, cells := 55, slots := 779, locals := 69 } : Room).slots) (s₁.setTop (entryFrame m #[(.ref th), (.ref ru)] 2))
  refine own_go (B := s₁.setTop (mkF m 0 #[rv th, rv ru] [])) (fun t k => castTop (own_hv_ef m th ru) k) ?_
  have K0 := Keep.refl h0 [th]
  have no_th_aSec : th ≠ aSec := fun q => absurd H9016 (by rw [← q]; exact Nat.not_lt.mpr H9001)
  refine own_go (B := (s₁.setTop (mkF m 1 #[rv th, rv ru] [(.ref th)]))) (fun t k => XS.aloadN X0.here hx rfl (hb hby own_hv_d0) rfl rfl k) ?_
  obtain ⟨T1, X1, e1, st1⟩ := initO X0 hx hZ hown w_89 w_38 w_39 e0 (g := (mkF m 1 #[rv th, rv ru] [(.ref th)])) rfl (by rw [hml]; rfl) rfl (hb hby own_hv_d1) (by decide) (W := 0) (by show 2 * 0 + _ ≤ _; exact own_b rfl) (by decide)
  refine own_go (B := (T1.setTop (mkF m 4 #[rv th, rv ru] []))) st1 ?_
  refine own_go (B := (T1.setTop (mkF m 5 #[rv th, rv ru] [(.ref th)]))) (fun t k => XS.aloadN X1.here hx rfl (hb hby own_hv_d4) rfl rfl k) ?_
  obtain ⟨T2, h2, X2, e2, E2, A2, D2, U2, st2⟩ := newO X1 hx hZ hown w_90 w_91 w_92 e1 (g := (mkF m 5 #[rv th, rv ru] [(.ref th)])) rfl (hb hby own_hv_d5) (own_b rfl) (own_b rfl)
  obtain ⟨a2, ga2⟩ : ∃ z, z = h0.size := ⟨_, rfl⟩
  rw [← ga2] at A2 D2 U2 st2
  refine own_go (B := (T2.setTop (mkF m 8 #[rv th, rv ru] [(.ref a2), (.ref th)]))) st2 ?_
  have Z3 : n0 ≤ h2.size := Nat.le_trans Z0 E2.1
  have K4 := Keep.ext K0 E2
  have F5 := Exa.ext E2 H9000
  have F6 := Fld.ext E2 H9002
  have F7 := Fld.ext E2 H9003
  have F8 := Fld.ext E2 H9004
  have F9 := Fld.ext E2 H9005
  have F10 := Fld.ext E2 H9006
  have F11 := Fld.ext E2 H9007
  have F12 := Fld.ext E2 H9008
  have F13 := Fld.ext E2 H9009
  have F14 := Exa.ext E2 H9010
  have F15 := Fld.ext E2 H9011
  have F16 := Sta.ext E2 H9013
  have F17 := Sta.ext E2 H9014
  have F18 := Exa.ext E2 H9015
  have F19 := Fld.ext E2 H9017
  have F20 := Fld.ext E2 H9018
  have F21 := Fld.ext E2 H9019
  have F22 := Fld.ext E2 H9020
  have gn2 : n0 ≤ a2 := Nat.le_trans Z0 (Nat.le_of_eq ga2.symm)
  have ne2_th : a2 ≠ th := fun q => absurd (H9000.lt) (by rw [← q, ga2]; exact Nat.lt_irrefl _)
  have ne2_ru : a2 ≠ ru := fun q => absurd (H9010.lt) (by rw [← q, ga2]; exact Nat.lt_irrefl _)
  have ne2_aSec : a2 ≠ aSec := fun q => absurd (H9015.lt) (by rw [← q, ga2]; exact Nat.lt_irrefl _)
  have F23 : Fld Z h2 a2 "com/example/sluicegate/sluicegate/rule/ValueShards" "wideLock" "Lcom/example/sluicegate/sluicegate/rule/SpinLock;" .null := D2 (Or.inr w_108) (ty := (.object "com/example/sluicegate/sluicegate/rule/SpinLock")) (by decide)
  have F24 : Fld Z h2 a2 "com/example/sluicegate/sluicegate/rule/ValueShards" "shards" "[Lcom/example/sluicegate/sluicegate/rule/ValueShards$Shard;" .null := D2 (Or.inr w_114) (ty := (.array (.object "com/example/sluicegate/sluicegate/rule/ValueShards$Shard"))) (by decide)
  refine own_go (B := (T2.setTop (mkF m 9 #[rv th, rv ru] [(.ref a2), (.ref a2), (.ref th)]))) (fun t k => XS.dup X2.here hx rfl (hb hby own_hv_d8) rfl rfl k) ?_
  obtain ⟨_, _, ⟨T25, L25, k25, n25⟩, -, X25, ⟨Lc25, hQ25, l25, yy25, zz25⟩, st25⟩ := X2.specialBack hx (y := own_y9) rfl hown (mvT hZ w_93) (mvT hZ w_94) (mvT hZ w_95) (by decide) (backOf (W := 2) (own_vs l Z a0 hw [] a2 h2 n0 Z3 A2 gn2 F23 F24 F16) hZ w_95 w_92 (by decide) (by decide)) (g := (mkF m 9 #[rv th, rv ru] [(.ref a2), (.ref a2), (.ref th)])) rfl (by rw [hml]; rfl) (Steps.refl _) (a := a2) (argsL := []) (rest := [(.ref a2), (.ref th)]) (lenOf own_pd4 rfl) rfl (by show 2 * 0 + _ ≤ _; exact own_b rfl) (hb hby own_hv_d9) (fun _ _ => ⟨rfl, e2, (own_b rfl : 1 + 51 ≤ _), (own_b rfl : 3 + 770 ≤ _)⟩)
  dsimp only [Pt.U, Pt.locs, Pt.cells, Pt.slots] at X25 l25 yy25 zz25 st25 hQ25
  obtain ⟨rfl, Nq25, K25⟩ := hQ25
  obtain ⟨L25, X25, N25⟩ := own_absC (K := 52) (K' := 773) X25 l25 yy25 zz25 N0 Nq25
  have F26 : n0 ≤ T25.heap.size := Nat.le_trans Z3 K25.1
  have F27 := Keep.trans K4 K25 (allS (Or.inr (Nat.le_trans K0.1 (Nat.le_of_eq ga2.symm))) all0)
  have F28 := Exa.keep F5 K25
  have F29 := Fld.keep F6 K25 (ninS (Ne.symm ne2_th) nin0)
  have F30 := Fld.keep F7 K25 (ninS (Ne.symm ne2_th) nin0)
  have F31 := Fld.keep F8 K25 (ninS (Ne.symm ne2_th) nin0)
  have F32 := Fld.keep F9 K25 (ninS (Ne.symm ne2_th) nin0)
  have F33 := Fld.keep F10 K25 (ninS (Ne.symm ne2_th) nin0)
  have F34 := Fld.keep F11 K25 (ninS (Ne.symm ne2_th) nin0)
  have F35 := Fld.keep F12 K25 (ninS (Ne.symm ne2_th) nin0)
  have F36 := Fld.keep F13 K25 (ninS (Ne.symm ne2_th) nin0)
  have F37 := Exa.keep F14 K25
  have F38 := Fld.keep F15 K25 (ninS (Ne.symm ne2_ru) nin0)
  have F39 := own_sta_keep F16 K25 (nsS (Exa.nostat A2) ns0)
  have F40 := own_sta_keep F17 K25 (nsS (Exa.nostat A2) ns0)
  have F41 := Exa.keep F18 K25
  have F42 := Fld.keep F19 K25 (ninS (Ne.symm ne2_aSec) nin0)
  have F43 := Fld.keep F20 K25 (ninS (Ne.symm ne2_aSec) nin0)
  have F44 := Fld.keep F21 K25 (ninS (Ne.symm ne2_aSec) nin0)
  have F45 := Fld.keep F22 K25 (ninS (Ne.symm ne2_aSec) nin0)
  have F46 := Exa.keep A2 K25
  refine own_tr (B := (T25.setTop (mkF m 12 #[rv th, rv ru] [(.ref a2), (.ref th)]))) st25 ?_
  obtain ⟨T49, h49, X49, e49, W49, st49⟩ := putF X25 hx hZ hown (host := "") (Or.inl w_144) Via.refl rfl F29 F28 (Or.inr ⟨w_145, rfl, hnm⟩) w_79 (ty := (.object "com/example/sluicegate/sluicegate/rule/ValueShards")) (by decide) rfl rfl (g := (mkF m 12 #[rv th, rv ru] [(.ref a2), (.ref th)])) rfl rfl (hb hby own_hv_d12)
  refine own_go (B := (T49.setTop (mkF m 15 #[rv th, rv ru] []))) st49 ?_
  obtain ⟨L49, X49, N49⟩ := own_abs X49 (Fr.snoc X49 N25 H9001)
  have F50 : n0 ≤ h49.size := by rw [W49.size]; exact F26
  have F51 := Keep.wr F27 W49 (Or.inl (List.mem_of_getElem? (i := 0) rfl))
  have F52 := Exa.wr W49 F28
  have F53 := Fld.same W49 F29
  have F54 := Fld.other W49 F30 (Or.inr (slot_ne (t := (.object "java/util/concurrent/atomic/AtomicInteger")) (t' := (.object "com/example/sluicegate/sluicegate/rule/ValueShards")) (Or.inr w_160) (Or.inr w_145) (by decide) (by decide) (by decide)))
  have F55 := Fld.other W49 F31 (Or.inr (slot_ne (t := (.object "java/util/concurrent/atomic/AtomicLong")) (t' := (.object "com/example/sluicegate/sluicegate/rule/ValueShards")) (Or.inr w_170) (Or.inr w_145) (by decide) (by decide) (by decide)))
  have F56 := Fld.other W49 F32 (Or.inr (slot_ne (t := (.object "com/example/sluicegate/sluicegate/rule/HotParameterRule")) (t' := (.object "com/example/sluicegate/sluicegate/rule/ValueShards")) (Or.inr w_172) (Or.inr w_145) (by decide) (by decide) (by decide)))
  have F57 := Fld.other W49 F33 (Or.inr (slot_ne (t := .long) (t' := (.object "com/example/sluicegate/sluicegate/rule/ValueShards")) (Or.inr w_193) (Or.inr w_145) (by decide) (by decide) (by decide)))
  have F58 := Fld.other W49 F34 (Or.inr (slot_ne (t := (.array (.object "java/util/Map"))) (t' := (.object "com/example/sluicegate/sluicegate/rule/ValueShards")) (Or.inr w_197) (Or.inr w_145) (by decide) (by decide) (by decide)))
  have F59 := Fld.other W49 F35 (Or.inr (slot_ne (t := .long) (t' := (.object "com/example/sluicegate/sluicegate/rule/ValueShards")) (Or.inr w_208) (Or.inr w_145) (by decide) (by decide) (by decide)))
  have F60 := Fld.other W49 F36 (Or.inr (slot_ne (t := .long) (t' := (.object "com/example/sluicegate/sluicegate/rule/ValueShards")) (Or.inr w_216) (Or.inr w_145) (by decide) (by decide) (by decide)))
  have F61 := Exa.wr W49 F37
  have F62 := Fld.other W49 F38 (Or.inl (Ne.symm H9012))
  have F63 := Sta.wr W49 F39
  have F64 := Sta.wr W49 F40
  have F65 := Exa.wr W49 F41
  have F66 := Fld.other W49 F42 (Or.inl (Ne.symm no_th_aSec))
  have F67 := Fld.other W49 F43 (Or.inl (Ne.symm no_th_aSec))
  have F68 := Fld.other W49 F44 (Or.inl (Ne.symm no_th_aSec))
  have F69 := Fld.other W49 F45 (Or.inl (Ne.symm no_th_aSec))
  have F70 := Exa.wr W49 F46
  refine own_go (B := (T49.setTop (mkF m 16 #[rv th, rv ru] [(.ref th)]))) (fun t k => XS.aloadN X49.here hx rfl (hb hby own_hv_d15) rfl rfl k) ?_
  obtain ⟨T71, h71, X71, e71, E71, A71, D71, U71, st71⟩ := newO X49 hx hZ hown w_146 w_147 w_148 e49 (g := (mkF m 16 #[rv th, rv ru] [(.ref th)])) rfl (hb hby own_hv_d16) (own_b rfl) (own_b rfl)
  obtain ⟨a71, ga71⟩ : ∃ z, z = h49.size := ⟨_, rfl⟩
  rw [← ga71] at A71 D71 U71 st71
  refine own_go (B := (T71.setTop (mkF m 19 #[rv th, rv ru] [(.ref a71), (.ref th)]))) st71 ?_
  have Z72 : n0 ≤ h71.size := Nat.le_trans F50 E71.1
  have K73 := Keep.ext F51 E71
  have F74 := Exa.ext E71 F52
  have F75 := Fld.ext E71 F53
  have F76 := Fld.ext E71 F54
  have F77 := Fld.ext E71 F55
  have F78 := Fld.ext E71 F56
  have F79 := Fld.ext E71 F57
  have F80 := Fld.ext E71 F58
  have F81 := Fld.ext E71 F59
  have F82 := Fld.ext E71 F60
  have F83 := Exa.ext E71 F61
  have F84 := Fld.ext E71 F62
  have F85 := Sta.ext E71 F63
  have F86 := Sta.ext E71 F64
  have F87 := Exa.ext E71 F65
  have F88 := Fld.ext E71 F66
  have F89 := Fld.ext E71 F67
  have F90 := Fld.ext E71 F68
  have F91 := Fld.ext E71 F69
  have gn71 : n0 ≤ a71 := Nat.le_trans F50 (Nat.le_of_eq ga71.symm)
  have ne71_th : a71 ≠ th := fun q => absurd (F52.lt) (by rw [← q, ga71]; exact Nat.lt_irrefl _)
  have ne71_ru : a71 ≠ ru := fun q => absurd (F61.lt) (by rw [← q, ga71]; exact Nat.lt_irrefl _)
  have ne71_aSec : a71 ≠ aSec := fun q => absurd (F65.lt) (by rw [← q, ga71]; exact Nat.lt_irrefl _)
  refine own_go (B := (T71.setTop (mkF m 20 #[rv th, rv ru] [(.ref a71), (.ref a71), (.ref th)]))) (fun t k => XS.dup X71.here hx rfl (hb hby own_hv_d19) rfl rfl k) ?_
  obtain ⟨_, _, ⟨T92, L92, k92, n92⟩, -, X92, ⟨Lc92, hQ92, l92, yy92, zz92⟩, st92⟩ := X71.specialBack hx (y := own_y10) rfl hown (mvT hZ w_149) (mvT hZ w_150) (mvT hZ w_151) (by decide) (backOf (W := 2) (own_ai l Z a0 hw [] a71 h71 n0 Z72) hZ w_151 w_148 (by decide) (by decide)) (g := (mkF m 20 #[rv th, rv ru] [(.ref a71), (.ref a71), (.ref th)])) rfl (by rw [hml]; rfl) (Steps.refl _) (a := a71) (argsL := []) (rest := [(.ref a71), (.ref th)]) (lenOf own_pd4 rfl) rfl (by show 2 * 0 + _ ≤ _; exact own_b rfl) (hb hby own_hv_d20) (fun _ _ => ⟨rfl, e71, (own_b rfl : 53 + 0 ≤ _), (own_b rfl : 774 + 0 ≤ _)⟩)
  dsimp only [Pt.U, Pt.locs, Pt.cells, Pt.slots] at X92 l92 yy92 zz92 st92 hQ92
  obtain ⟨rfl, Nq92, eq92⟩ := hQ92
  obtain ⟨L92, X92, N92⟩ := own_absC (K := 53) (K' := 774) X92 l92 yy92 zz92 N49 Nq92
  have e92 : T92.heap = h71 := eq92
  refine own_tr (B := (T92.setTop (mkF m 23 #[rv th, rv ru] [(.ref a71), (.ref th)]))) st92 ?_
  obtain ⟨T93, h93, X93, e93, W93, st93⟩ := putF X92 hx hZ hown (host := "") (Or.inl w_159) Via.refl e92 F76 F74 (Or.inr ⟨w_160, rfl, hnm⟩) w_79 (ty := (.object "java/util/concurrent/atomic/AtomicInteger")) (by decide) rfl rfl (g := (mkF m 23 #[rv th, rv ru] [(.ref a71), (.ref th)])) rfl rfl (hb hby own_hv_d23)
  refine own_go (B := (T93.setTop (mkF m 26 #[rv th, rv ru] []))) st93 ?_
  obtain ⟨L93, X93, N93⟩ := own_abs X93 (Fr.snoc X93 N92 H9001)
  have F94 : n0 ≤ h93.size := by rw [W93.size]; exact Z72
  have F95 := Keep.wr K73 W93 (Or.inl (List.mem_of_getElem? (i := 0) rfl))
  have F96 := Exa.wr W93 F74
  have F97 := Fld.other W93 F75 (Or.inr (slot_ne (t := (.object "com/example/sluicegate/sluicegate/rule/ValueShards")) (t' := (.object "java/util/concurrent/atomic/AtomicInteger")) (Or.inr w_145) (Or.inr w_160) (by decide) (by decide) (by decide)))
  have F98 := Fld.same W93 F76
  have F99 := Fld.other W93 F77 (Or.inr (slot_ne (t := (.object "java/util/concurrent/atomic/AtomicLong")) (t' := (.object "java/util/concurrent/atomic/AtomicInteger")) (Or.inr w_170) (Or.inr w_160) (by decide) (by decide) (by decide)))
  have F100 := Fld.other W93 F78 (Or.inr (slot_ne (t := (.object "com/example/sluicegate/sluicegate/rule/HotParameterRule")) (t' := (.object "java/util/concurrent/atomic/AtomicInteger")) (Or.inr w_172) (Or.inr w_160) (by decide) (by decide) (by decide)))
  have F101 := Fld.other W93 F79 (Or.inr (slot_ne (t := .long) (t' := (.object "java/util/concurrent/atomic/AtomicInteger")) (Or.inr w_193) (Or.inr w_160) (by decide) (by decide) (by decide)))
  have F102 := Fld.other W93 F80 (Or.inr (slot_ne (t := (.array (.object "java/util/Map"))) (t' := (.object "java/util/concurrent/atomic/AtomicInteger")) (Or.inr w_197) (Or.inr w_160) (by decide) (by decide) (by decide)))
  have F103 := Fld.other W93 F81 (Or.inr (slot_ne (t := .long) (t' := (.object "java/util/concurrent/atomic/AtomicInteger")) (Or.inr w_208) (Or.inr w_160) (by decide) (by decide) (by decide)))
  have F104 := Fld.other W93 F82 (Or.inr (slot_ne (t := .long) (t' := (.object "java/util/concurrent/atomic/AtomicInteger")) (Or.inr w_216) (Or.inr w_160) (by decide) (by decide) (by decide)))
  have F105 := Exa.wr W93 F83
  have F106 := Fld.other W93 F84 (Or.inl (Ne.symm H9012))
  have F107 := Sta.wr W93 F85
  have F108 := Sta.wr W93 F86
  have F109 := Exa.wr W93 F87
  have F110 := Fld.other W93 F88 (Or.inl (Ne.symm no_th_aSec))
  have F111 := Fld.other W93 F89 (Or.inl (Ne.symm no_th_aSec))
  have F112 := Fld.other W93 F90 (Or.inl (Ne.symm no_th_aSec))
  have F113 := Fld.other W93 F91 (Or.inl (Ne.symm no_th_aSec))
  have F114 := Exa.wr W93 A71
  refine own_go (B := (T93.setTop (mkF m 27 #[rv th, rv ru] [(.ref th)]))) (fun t k => XS.aloadN X93.here hx rfl (hb hby own_hv_d26) rfl rfl k) ?_
  obtain ⟨T115, h115, X115, e115, E115, A115, D115, U115, st115⟩ := newO X93 hx hZ hown w_161 w_162 w_163 e93 (g := (mkF m 27 #[rv th, rv ru] [(.ref th)])) rfl (hb hby own_hv_d27) (own_b rfl) (own_b rfl)
  obtain ⟨a115, ga115⟩ : ∃ z, z = h93.size := ⟨_, rfl⟩
  rw [← ga115] at A115 D115 U115 st115
  refine own_go (B := (T115.setTop (mkF m 30 #[rv th, rv ru] [(.ref a115), (.ref th)]))) st115 ?_
  have Z116 : n0 ≤ h115.size := Nat.le_trans F94 E115.1
  have K117 := Keep.ext F95 E115
  have F118 := Exa.ext E115 F96
  have F119 := Fld.ext E115 F97
  have F120 := Fld.ext E115 F98
  have F121 := Fld.ext E115 F99
  have F122 := Fld.ext E115 F100
  have F123 := Fld.ext E115 F101
  have F124 := Fld.ext E115 F102
  have F125 := Fld.ext E115 F103
  have F126 := Fld.ext E115 F104
  have F127 := Exa.ext E115 F105
  have F128 := Fld.ext E115 F106
  have F129 := Sta.ext E115 F107
  have F130 := Sta.ext E115 F108
  have F131 := Exa.ext E115 F109
  have F132 := Fld.ext E115 F110
  have F133 := Fld.ext E115 F111
  have F134 := Fld.ext E115 F112
  have F135 := Fld.ext E115 F113
  have gn115 : n0 ≤ a115 := Nat.le_trans F94 (Nat.le_of_eq ga115.symm)
  have ne115_th : a115 ≠ th := fun q => absurd (F96.lt) (by rw [← q, ga115]; exact Nat.lt_irrefl _)
  have ne115_ru : a115 ≠ ru := fun q => absurd (F105.lt) (by rw [← q, ga115]; exact Nat.lt_irrefl _)
  have ne115_aSec : a115 ≠ aSec := fun q => absurd (F109.lt) (by rw [← q, ga115]; exact Nat.lt_irrefl _)
  refine own_go (B := (T115.setTop (mkF m 31 #[rv th, rv ru] [(.ref a115), (.ref a115), (.ref th)]))) (fun t k => XS.dup X115.here hx rfl (hb hby own_hv_d30) rfl rfl k) ?_
  obtain ⟨_, _, ⟨T136, L136, k136, n136⟩, -, X136, ⟨Lc136, hQ136, l136, yy136, zz136⟩, st136⟩ := X115.specialBack hx (y := own_y11) rfl hown (mvT hZ w_164) (mvT hZ w_165) (mvT hZ w_166) (by decide) (backOf (W := 2) (own_al l Z a0 hw [] a115 h115 n0 Z116) hZ w_166 w_163 (by decide) (by decide)) (g := (mkF m 31 #[rv th, rv ru] [(.ref a115), (.ref a115), (.ref th)])) rfl (by rw [hml]; rfl) (Steps.refl _) (a := a115) (argsL := []) (rest := [(.ref a115), (.ref th)]) (lenOf own_pd4 rfl) rfl (by show 2 * 0 + _ ≤ _; exact own_b rfl) (hb hby own_hv_d31) (fun _ _ => ⟨rfl, e115, (own_b rfl : 54 + 0 ≤ _), (own_b rfl : 775 + 0 ≤ _)⟩)
  dsimp only [Pt.U, Pt.locs, Pt.cells, Pt.slots] at X136 l136 yy136 zz136 st136 hQ136
  obtain ⟨rfl, Nq136, eq136⟩ := hQ136
  obtain ⟨L136, X136, N136⟩ := own_absC (K := 54) (K' := 775) X136 l136 yy136 zz136 N93 Nq136
  have e136 : T136.heap = h115 := eq136
  refine own_tr (B := (T136.setTop (mkF m 34 #[rv th, rv ru] [(.ref a115), (.ref th)]))) st136 ?_
  obtain ⟨T137, h137, X137, e137, W137, st137⟩ := putF X136 hx hZ hown (host := "") (Or.inl w_169) Via.refl e136 F121 F118 (Or.inr ⟨w_170, rfl, hnm⟩) w_79 (ty := (.object "java/util/concurrent/atomic/AtomicLong")) (by decide) rfl rfl (g := (mkF m 34 #[rv th, rv ru] [(.ref a115), (.ref th)])) rfl rfl (hb hby own_hv_d34)
  refine own_go (B := (T137.setTop (mkF m 37 #[rv th, rv ru] []))) st137 ?_
  obtain ⟨L137, X137, N137⟩ := own_abs X137 (Fr.snoc X137 N136 H9001)
  have F138 : n0 ≤ h137.size := by rw [W137.size]; exact Z116
  have F139 := Keep.wr K117 W137 (Or.inl (List.mem_of_getElem? (i := 0) rfl))
  have F140 := Exa.wr W137 F118
  have F141 := Fld.other W137 F119 (Or.inr (slot_ne (t := (.object "com/example/sluicegate/sluicegate/rule/ValueShards")) (t' := (.object "java/util/concurrent/atomic/AtomicLong")) (Or.inr w_145) (Or.inr w_170) (by decide) (by decide) (by decide)))
  have F142 := Fld.other W137 F120 (Or.inr (slot_ne (t := (.object "java/util/concurrent/atomic/AtomicInteger")) (t' := (.object "java/util/concurrent/atomic/AtomicLong")) (Or.inr w_160) (Or.inr w_170) (by decide) (by decide) (by decide)))
  have F143 := Fld.same W137 F121
  have F144 := Fld.other W137 F122 (Or.inr (slot_ne (t := (.object "com/example/sluicegate/sluicegate/rule/HotParameterRule")) (t' := (.object "java/util/concurrent/atomic/AtomicLong")) (Or.inr w_172) (Or.inr w_170) (by decide) (by decide) (by decide)))
  have F145 := Fld.other W137 F123 (Or.inr (slot_ne (t := .long) (t' := (.object "java/util/concurrent/atomic/AtomicLong")) (Or.inr w_193) (Or.inr w_170) (by decide) (by decide) (by decide)))
  have F146 := Fld.other W137 F124 (Or.inr (slot_ne (t := (.array (.object "java/util/Map"))) (t' := (.object "java/util/concurrent/atomic/AtomicLong")) (Or.inr w_197) (Or.inr w_170) (by decide) (by decide) (by decide)))
  have F147 := Fld.other W137 F125 (Or.inr (slot_ne (t := .long) (t' := (.object "java/util/concurrent/atomic/AtomicLong")) (Or.inr w_208) (Or.inr w_170) (by decide) (by decide) (by decide)))
  have F148 := Fld.other W137 F126 (Or.inr (slot_ne (t := .long) (t' := (.object "java/util/concurrent/atomic/AtomicLong")) (Or.inr w_216) (Or.inr w_170) (by decide) (by decide) (by decide)))
  have F149 := Exa.wr W137 F127
  have F150 := Fld.other W137 F128 (Or.inl (Ne.symm H9012))
  have F151 := Sta.wr W137 F129
  have F152 := Sta.wr W137 F130
  have F153 := Exa.wr W137 F131
  have F154 := Fld.other W137 F132 (Or.inl (Ne.symm no_th_aSec))
  have F155 := Fld.other W137 F133 (Or.inl (Ne.symm no_th_aSec))
  have F156 := Fld.other W137 F134 (Or.inl (Ne.symm no_th_aSec))
  have F157 := Fld.other W137 F135 (Or.inl (Ne.symm no_th_aSec))
  have F158 := Exa.wr W137 A115
  refine own_go (B := (T137.setTop (mkF m 38 #[rv th, rv ru] [(.ref th)]))) (fun t k => XS.aloadN X137.here hx rfl (hb hby own_hv_d37) rfl rfl k) ?_
  refine own_go (B := (T137.setTop (mkF m 39 #[rv th, rv ru] [(.ref ru), (.ref th)]))) (fun t k => XS.aloadN X137.here hx rfl (hb hby own_hv_d38) rfl rfl k) ?_
  obtain ⟨T159, h159, X159, e159, W159, st159⟩ := putF X137 hx hZ hown (host := "") (Or.inl w_171) Via.refl e137 F144 F140 (Or.inr ⟨w_172, rfl, hnm⟩) w_79 (ty := (.object "com/example/sluicegate/sluicegate/rule/HotParameterRule")) (by decide) rfl rfl (g := (mkF m 39 #[rv th, rv ru] [(.ref ru), (.ref th)])) rfl rfl (hb hby own_hv_d39)
  refine own_go (B := (T159.setTop (mkF m 42 #[rv th, rv ru] []))) st159 ?_
  obtain ⟨L159, X159, N159⟩ := own_abs X159 (Fr.snoc X159 N137 H9001)
  have F160 : n0 ≤ h159.size := by rw [W159.size]; exact F138
  have F161 := Keep.wr F139 W159 (Or.inl (List.mem_of_getElem? (i := 0) rfl))
  have F162 := Exa.wr W159 F140
  have F163 := Fld.other W159 F141 (Or.inr (slot_ne (t := (.object "com/example/sluicegate/sluicegate/rule/ValueShards")) (t' := (.object "com/example/sluicegate/sluicegate/rule/HotParameterRule")) (Or.inr w_145) (Or.inr w_172) (by decide) (by decide) (by decide)))
  have F164 := Fld.other W159 F142 (Or.inr (slot_ne (t := (.object "java/util/concurrent/atomic/AtomicInteger")) (t' := (.object "com/example/sluicegate/sluicegate/rule/HotParameterRule")) (Or.inr w_160) (Or.inr w_172) (by decide) (by decide) (by decide)))
  have F165 := Fld.other W159 F143 (Or.inr (slot_ne (t := (.object "java/util/concurrent/atomic/AtomicLong")) (t' := (.object "com/example/sluicegate/sluicegate/rule/HotParameterRule")) (Or.inr w_170) (Or.inr w_172) (by decide) (by decide) (by decide)))
  have F166 := Fld.same W159 F144
  have F167 := Fld.other W159 F145 (Or.inr (slot_ne (t := .long) (t' := (.object "com/example/sluicegate/sluicegate/rule/HotParameterRule")) (Or.inr w_193) (Or.inr w_172) (by decide) (by decide) (by decide)))
  have F168 := Fld.other W159 F146 (Or.inr (slot_ne (t := (.array (.object "java/util/Map"))) (t' := (.object "com/example/sluicegate/sluicegate/rule/HotParameterRule")) (Or.inr w_197) (Or.inr w_172) (by decide) (by decide) (by decide)))
  have F169 := Fld.other W159 F147 (Or.inr (slot_ne (t := .long) (t' := (.object "com/example/sluicegate/sluicegate/rule/HotParameterRule")) (Or.inr w_208) (Or.inr w_172) (by decide) (by decide) (by decide)))
  have F170 := Fld.other W159 F148 (Or.inr (slot_ne (t := .long) (t' := (.object "com/example/sluicegate/sluicegate/rule/HotParameterRule")) (Or.inr w_216) (Or.inr w_172) (by decide) (by decide) (by decide)))
  have F171 := Exa.wr W159 F149
  have F172 := Fld.other W159 F150 (Or.inl (Ne.symm H9012))
  have F173 := Sta.wr W159 F151
  have F174 := Sta.wr W159 F152
  have F175 := Exa.wr W159 F153
  have F176 := Fld.other W159 F154 (Or.inl (Ne.symm no_th_aSec))
  have F177 := Fld.other W159 F155 (Or.inl (Ne.symm no_th_aSec))
  have F178 := Fld.other W159 F156 (Or.inl (Ne.symm no_th_aSec))
  have F179 := Fld.other W159 F157 (Or.inl (Ne.symm no_th_aSec))
  refine own_go (B := (T159.setTop (mkF m 43 #[rv th, rv ru] [(.ref th)]))) (fun t k => XS.aloadN X159.here hx rfl (hb hby own_hv_d42) rfl rfl k) ?_
  obtain ⟨T180, X180, e180, st180⟩ := getS X159 hx hZ hown (host := "") w_173 Via.refl e159 F174 (g := (mkF m 43 #[rv th, rv ru] [(.ref th)])) rfl (hb hby own_hv_d43)
  refine own_go (B := (T180.setTop (mkF m 46 #[rv th, rv ru] [(.ref aSec), (.ref th)]))) st180 ?_
  refine own_go (B := (T180.setTop (mkF m 47 #[rv th, rv ru] [(.ref ru), (.ref aSec), (.ref th)]))) (fun t k => XS.aloadN X180.here hx rfl (hb hby own_hv_d46) rfl rfl k) ?_
  obtain ⟨cq181, kq181, qa181, qb181, qc181⟩ := isOf hZ e180 F171
  obtain ⟨_, _, ⟨T181, L181, k181, n181⟩, -, X181, ⟨Lc181, hQ181, l181, yy181, zz181⟩, st181⟩ := X180.virtualBack hx (y := own_y12) (z := own_y12) hown (mvT hZ w_175) (mvT hZ w_176) (notFace_of_selects (args := #[]) (mvT hZ w_178)) (mvT hZ w_178) (mvT hZ w_177) (by decide) (backOf (W := 2) (own_gd l Z a0 hw [] ru du h159 n0 F160 F172) hZ w_179 w_10 (by decide) (by decide)) qa181 qc181 (g := (mkF m 47 #[rv th, rv ru] [(.ref ru), (.ref aSec), (.ref th)])) rfl (by rw [hml]; rfl) (Steps.refl _) (argsL := []) (rest := [(.ref aSec), (.ref th)]) (lenOf own_pd6 rfl) rfl (by show 2 * 0 + _ ≤ _; exact own_b rfl) (hb hby own_hv_d47) (fun _ _ => ⟨rfl, e180, (own_b rfl : 54 + 0 ≤ _), (own_b rfl : 775 + 0 ≤ _)⟩)
  dsimp only [Pt.U, Pt.locs, Pt.cells, Pt.slots] at X181 l181 yy181 zz181 st181 hQ181
  obtain ⟨rfl, Nq181, eq181⟩ := hQ181
  obtain ⟨L181, X181, N181⟩ := own_absC (K := 54) (K' := 775) X181 l181 yy181 zz181 N159 Nq181
  have e181 : T181.heap = h159 := eq181
  refine own_tr (B := (T181.setTop (mkF m 50 #[rv th, rv ru] [(.int du), (.ref aSec), (.ref th)]))) st181 ?_
  refine own_go (B := (T181.setTop (mkF m 51 #[rv th, rv ru] [(.long (du.toInt64)), (.ref aSec), (.ref th)]))) (fun t k => XS.i2l X181.here hx rfl (hb hby own_hv_d50) rfl k) ?_
  obtain ⟨cq182, kq182, qa182, qb182, qc182⟩ := isOf hZ e181 F175
  obtain ⟨_, _, ⟨T182, L182, k182, n182⟩, -, X182, ⟨Lc182, hQ182, l182, yy182, zz182⟩, st182⟩ := X181.virtualBack hx (y := own_y13) (z := own_y13) hown (mvT hZ w_180) (mvT hZ w_181) (notFace_of_selects (args := #[]) (mvT hZ w_183)) (mvT hZ w_183) (mvT hZ w_182) (by decide) (backOf (W := 1) (own_tm l Z a0 hw [] aSec (du.toInt64) mr h159 n0 F160 F176 F178 F179 (own_neg1 hdu)) hZ w_184 w_174 (by decide) (by decide)) qa182 qc182 (g := (mkF m 51 #[rv th, rv ru] [(.long (du.toInt64)), (.ref aSec), (.ref th)])) rfl (by rw [hml]; rfl) (Steps.refl _) (argsL := [(.long (du.toInt64))]) (rest := [(.ref th)]) (lenOf own_pd7 rfl) rfl (by show 2 * 0 + _ ≤ _; exact own_b rfl) (hb hby own_hv_d51) (fun _ _ => ⟨rfl, e181, (own_b rfl : 54 + 0 ≤ _), (own_b rfl : 775 + 0 ≤ _)⟩)
  dsimp only [Pt.U, Pt.locs, Pt.cells, Pt.slots] at X182 l182 yy182 zz182 st182 hQ182
  obtain ⟨r182, rfl, Nq182, eq182⟩ := hQ182
  obtain ⟨L182, X182, N182⟩ := own_absC (K := 54) (K' := 775) X182 l182 yy182 zz182 N181 Nq182
  have e182 : T182.heap = h159 := eq182
  refine own_tr (B := (T182.setTop (mkF m 54 #[rv th, rv ru] [(.long r182), (.ref th)]))) st182 ?_
  obtain ⟨T183, h183, X183, e183, W183, st183⟩ := putF X182 hx hZ hown (host := "") (Or.inl w_192) Via.refl e182 F167 F162 (Or.inr ⟨w_193, rfl, hnm⟩) w_79 (ty := .long) (by decide) rfl rfl (g := (mkF m 54 #[rv th, rv ru] [(.long r182), (.ref th)])) rfl rfl (hb hby own_hv_d54)
  refine own_go (B := (T183.setTop (mkF m 57 #[rv th, rv ru] []))) st183 ?_
  obtain ⟨L183, X183, N183⟩ := own_abs X183 (Fr.snoc X183 N182 H9001)
  have F184 : n0 ≤ h183.size := by rw [W183.size]; exact F160
  have F185 := Keep.wr F161 W183 (Or.inl (List.mem_of_getElem? (i := 0) rfl))
  have F186 := Exa.wr W183 F162
  have F187 := Fld.other W183 F163 (Or.inr (slot_ne (t := (.object "com/example/sluicegate/sluicegate/rule/ValueShards")) (t' := .long) (Or.inr w_145) (Or.inr w_193) (by decide) (by decide) (by decide)))
  have F188 := Fld.other W183 F164 (Or.inr (slot_ne (t := (.object "java/util/concurrent/atomic/AtomicInteger")) (t' := .long) (Or.inr w_160) (Or.inr w_193) (by decide) (by decide) (by decide)))
  have F189 := Fld.other W183 F165 (Or.inr (slot_ne (t := (.object "java/util/concurrent/atomic/AtomicLong")) (t' := .long) (Or.inr w_170) (Or.inr w_193) (by decide) (by decide) (by decide)))
  have F190 := Fld.other W183 F166 (Or.inr (slot_ne (t := (.object "com/example/sluicegate/sluicegate/rule/HotParameterRule")) (t' := .long) (Or.inr w_172) (Or.inr w_193) (by decide) (by decide) (by decide)))
  have F191 := Fld.same W183 F167
  have F192 := Fld.other W183 F168 (Or.inr (slot_ne (t := (.array (.object "java/util/Map"))) (t' := .long) (Or.inr w_197) (Or.inr w_193) (by decide) (by decide) (by decide)))
  have F193 := Fld.other W183 F169 (Or.inr (slot_ne (t := .long) (t' := .long) (Or.inr w_208) (Or.inr w_193) (by decide) (by decide) (by decide)))
  have F194 := Fld.other W183 F170 (Or.inr (slot_ne (t := .long) (t' := .long) (Or.inr w_216) (Or.inr w_193) (by decide) (by decide) (by decide)))
  have F195 := Exa.wr W183 F171
  have F196 := Fld.other W183 F172 (Or.inl (Ne.symm H9012))
  have F197 := Sta.wr W183 F173
  have F198 := Sta.wr W183 F174
  have F199 := Exa.wr W183 F175
  have F200 := Fld.other W183 F176 (Or.inl (Ne.symm no_th_aSec))
  have F201 := Fld.other W183 F177 (Or.inl (Ne.symm no_th_aSec))
  have F202 := Fld.other W183 F178 (Or.inl (Ne.symm no_th_aSec))
  have F203 := Fld.other W183 F179 (Or.inl (Ne.symm no_th_aSec))
  refine own_go (B := (T183.setTop (mkF m 58 #[rv th, rv ru] [(.ref th)]))) (fun t k => XS.aloadN X183.here hx rfl (hb hby own_hv_d57) rfl rfl k) ?_
  refine own_go (B := (T183.setTop (mkF m 59 #[rv th, rv ru] [(.int (4 : Int32)), (.ref th)]))) (fun t k => own_iconst (v := (4 : Int32)) X183.here hx rfl (hb hby own_hv_d58) (by decide) k) ?_
  obtain ⟨T204, h204, c204, X204, e204, E204, A204, O204, st204⟩ := newR X183 hx hZ hown w_194 w_195 e183 (g := (mkF m 59 #[rv th, rv ru] [(.int (4 : Int32)), (.ref th)])) rfl (hb hby own_hv_d59) rfl (by decide) (cap := 4) (by decide) (by decide) (own_b rfl) (own_b rfl)
  obtain ⟨a204, ga204⟩ : ∃ z, z = h183.size := ⟨_, rfl⟩
  rw [← ga204] at A204 st204
  refine own_go (B := (T204.setTop (mkF m 62 #[rv th, rv ru] [(.ref a204), (.ref th)]))) st204 ?_
  have Z205 : n0 ≤ h204.size := Nat.le_trans F184 E204.1
  have K206 := Keep.ext F185 E204
  have F207 := Exa.ext E204 F186
  have F208 := Fld.ext E204 F187
  have F209 := Fld.ext E204 F188
  have F210 := Fld.ext E204 F189
  have F211 := Fld.ext E204 F190
  have F212 := Fld.ext E204 F191
  have F213 := Fld.ext E204 F192
  have F214 := Fld.ext E204 F193
  have F215 := Fld.ext E204 F194
  have F216 := Exa.ext E204 F195
  have F217 := Fld.ext E204 F196
  have F218 := Sta.ext E204 F197
  have F219 := Sta.ext E204 F198
  have F220 := Exa.ext E204 F199
  have F221 := Fld.ext E204 F200
  have F222 := Fld.ext E204 F201
  have F223 := Fld.ext E204 F202
  have F224 := Fld.ext E204 F203
  have gn204 : n0 ≤ a204 := Nat.le_trans F184 (Nat.le_of_eq ga204.symm)
  have ne204_th : a204 ≠ th := fun q => absurd (F186.lt) (by rw [← q, ga204]; exact Nat.lt_irrefl _)
  have ne204_ru : a204 ≠ ru := fun q => absurd (F195.lt) (by rw [← q, ga204]; exact Nat.lt_irrefl _)
  have ne204_aSec : a204 ≠ aSec := fun q => absurd (F199.lt) (by rw [← q, ga204]; exact Nat.lt_irrefl _)
  have V204 := own_Ao_new A204 O204
  obtain ⟨T225, h225, X225, e225, W225, st225⟩ := putF X204 hx hZ hown (host := "") (Or.inl w_196) Via.refl e204 F213 F207 (Or.inr ⟨w_197, rfl, hnm⟩) w_79 (ty := (.array (.object "java/util/Map"))) (by decide) rfl rfl (g := (mkF m 62 #[rv th, rv ru] [(.ref a204), (.ref th)])) rfl rfl (hb hby own_hv_d62)
  refine own_go (B := (T225.setTop (mkF m 65 #[rv th, rv ru] []))) st225 ?_
  obtain ⟨L225, X225, N225⟩ := own_abs X225 (Fr.snoc X225 N183 H9001)
  have F226 : n0 ≤ h225.size := by rw [W225.size]; exact Z205
  have F227 := Keep.wr K206 W225 (Or.inl (List.mem_of_getElem? (i := 0) rfl))
  have F228 := Exa.wr W225 F207
  have F229 := Fld.other W225 F208 (Or.inr (slot_ne (t := (.object "com/example/sluicegate/sluicegate/rule/ValueShards")) (t' := (.array (.object "java/util/Map"))) (Or.inr w_145) (Or.inr w_197) (by decide) (by decide) (by decide)))
  have F230 := Fld.other W225 F209 (Or.inr (slot_ne (t := (.object "java/util/concurrent/atomic/AtomicInteger")) (t' := (.array (.object "java/util/Map"))) (Or.inr w_160) (Or.inr w_197) (by decide) (by decide) (by decide)))
  have F231 := Fld.other W225 F210 (Or.inr (slot_ne (t := (.object "java/util/concurrent/atomic/AtomicLong")) (t' := (.array (.object "java/util/Map"))) (Or.inr w_170) (Or.inr w_197) (by decide) (by decide) (by decide)))
  have F232 := Fld.other W225 F211 (Or.inr (slot_ne (t := (.object "com/example/sluicegate/sluicegate/rule/HotParameterRule")) (t' := (.array (.object "java/util/Map"))) (Or.inr w_172) (Or.inr w_197) (by decide) (by decide) (by decide)))
  have F233 := Fld.other W225 F212 (Or.inr (slot_ne (t := .long) (t' := (.array (.object "java/util/Map"))) (Or.inr w_193) (Or.inr w_197) (by decide) (by decide) (by decide)))
  have F234 := Fld.same W225 F213
  have F235 := Fld.other W225 F214 (Or.inr (slot_ne (t := .long) (t' := (.array (.object "java/util/Map"))) (Or.inr w_208) (Or.inr w_197) (by decide) (by decide) (by decide)))
  have F236 := Fld.other W225 F215 (Or.inr (slot_ne (t := .long) (t' := (.array (.object "java/util/Map"))) (Or.inr w_216) (Or.inr w_197) (by decide) (by decide) (by decide)))
  have F237 := Exa.wr W225 F216
  have F238 := Fld.other W225 F217 (Or.inl (Ne.symm H9012))
  have F239 := Sta.wr W225 F218
  have F240 := Sta.wr W225 F219
  have F241 := Exa.wr W225 F220
  have F242 := Fld.other W225 F221 (Or.inl (Ne.symm no_th_aSec))
  have F243 := Fld.other W225 F222 (Or.inl (Ne.symm no_th_aSec))
  have F244 := Fld.other W225 F223 (Or.inl (Ne.symm no_th_aSec))
  have F245 := Fld.other W225 F224 (Or.inl (Ne.symm no_th_aSec))
  have F246 := own_Ao_other V204 W225 ne204_th
  exact own_retV X225 hx hlk Bd.returns (hb hby own_hv_d65) (own_b rfl) (own_b rfl) (Q := (own_hv_Q Z th ru aSec mr du h0 n0)) (by rw [e225]; exact ⟨rfl, N225, F227, F228, F235, F236⟩)

theorem own_pv_d0 : decode prog_57_method_1_code 0 = .ok (.aload_n 0, 1) := by decide +kernel
theorem own_pv_d1 : decode prog_57_method_1_code 1 = .ok (.aload_n 1, 1) := by decide +kernel
theorem own_pv_d2 : decode prog_57_method_1_code 2 = .ok (.invokespecial 1, 3) := by decide +kernel
theorem own_pv_d5 : decode prog_57_method_1_code 5 = .ok (.aload_n 0, 1) := by decide +kernel
theorem own_pv_d6 : decode prog_57_method_1_code 6 = .ok (.getstatic 7, 3) := by decide +kernel
theorem own_pv_d9 : decode prog_57_method_1_code 9 = .ok (.aload_n 1, 1) := by decide +kernel
theorem own_pv_d10 : decode prog_57_method_1_code 10 = .ok (.invokevirtual 13, 3) := by decide +kernel
theorem own_pv_d13 : decode prog_57_method_1_code 13 = .ok (.i2l, 1) := by decide +kernel
theorem own_pv_d14 : decode prog_57_method_1_code 14 = .ok (.invokevirtual 19, 3) := by decide +kernel
theorem own_pv_d17 : decode prog_57_method_1_code 17 = .ok (.putfield 23, 3) := by decide +kernel
theorem own_pv_d20 : decode prog_57_method_1_code 20 = .ok (.aload_n 0, 1) := by decide +kernel
theorem own_pv_d21 : decode prog_57_method_1_code 21 = .ok (.getstatic 29, 3) := by decide +kernel
theorem own_pv_d24 : decode prog_57_method_1_code 24 = .ok (.aload_n 1, 1) := by decide +kernel
theorem own_pv_d25 : decode prog_57_method_1_code 25 = .ok (.invokevirtual 32, 3) := by decide +kernel
theorem own_pv_d28 : decode prog_57_method_1_code 28 = .ok (.invokevirtual 19, 3) := by decide +kernel
theorem own_pv_d31 : decode prog_57_method_1_code 31 = .ok (.putfield 36, 3) := by decide +kernel
theorem own_pv_d34 : decode prog_57_method_1_code 34 = .ok (.return_, 1) := by decide +kernel
theorem own_pv_pn : plainName "com/example/sluicegate/sluicegate/rule/PacedValues" = true := by first | (simp [plainName, overriddenIn]; done) | decide +kernel
theorem own_pv_ef (m : MethodId) (th : Addr) (ru : Addr) : entryFrame m #[(.ref th), (.ref ru)] 2 = mkF m 0 #[rv th, rv ru] [] := by first | (simp [entryFrame, mkF, argsToLocals, Value.category]; done) | rfl
def own_pv_Q (Z : State) (th : Addr) (ru : Addr) (aSec aMil : Addr) (mr du : Int32) (mq : Int64) (h0 : Heap) (n0 : Nat) (v : Option Value) (h : Heap) (L : List Loc) : Prop := v = none ∧ Fr n0 L ∧ Keep h0 h [th] ∧ Exa Z h th "com/example/sluicegate/sluicegate/rule/PacedValues" ∧ Fld Z h th "com/example/sluicegate/sluicegate/rule/PacedValues" "durationNanos" "J" (.long (own_nan (du.toInt64) (1000000000 : Int64) (9223372036 : Int64)))
set_option maxRecDepth 65536 in
set_option maxHeartbeats 40000000 in
theorem own_pv (l : Launch) (Z : State) (a0 : Array Value) (hw : ∀ d ∈ tables_1, d.before a0 Z = true) (ws : List Jvm.Cond) (th : Addr) (ru : Addr) (aSec aMil : Addr) (mr du : Int32) (mq : Int64) (h0 : Heap) (n0 : Nat) (Z0 : n0 ≤ h0.size) (H9000 : Exa Z h0 th "com/example/sluicegate/sluicegate/rule/PacedValues") (H9001 : n0 ≤ th) (H9002 : Fld Z h0 th "com/example/sluicegate/sluicegate/rule/HotValues" "shards" "Lcom/example/sluicegate/sluicegate/rule/ValueShards;" .null) (H9003 : Fld Z h0 th "com/example/sluicegate/sluicegate/rule/HotValues" "kept" "Ljava/util/concurrent/atomic/AtomicInteger;" .null) (H9004 : Fld Z h0 th "com/example/sluicegate/sluicegate/rule/HotValues" "keptEver" "Ljava/util/concurrent/atomic/AtomicLong;" .null) (H9005 : Fld Z h0 th "com/example/sluicegate/sluicegate/rule/HotValues" "rule" "Lcom/example/sluicegate/sluicegate/rule/HotParameterRule;" .null) (H9006 : Fld Z h0 th "com/example/sluicegate/sluicegate/rule/HotValues" "durationMillis" "J" (.long (0 : Int64))) (H9007 : Fld Z h0 th "com/example/sluicegate/sluicegate/rule/HotValues" "setAsideByPlace" "[Ljava/util/Map;" .null) (H9008 : Fld Z h0 th "com/example/sluicegate/sluicegate/rule/PacedValues" "durationNanos" "J" (.long (0 : Int64))) (H9009 : Fld Z h0 th "com/example/sluicegate/sluicegate/rule/PacedValues" "maxQueueingNanos" "J" (.long (0 : Int64))) (H9010 : Exa Z h0 ru "com/example/sluicegate/sluicegate/rule/HotParameterRule") (H9011 : Fld Z h0 ru "com/example/sluicegate/sluicegate/rule/HotParameterRule" "durationSeconds" "I" (.int du)) (H9012 : Fld Z h0 ru "com/example/sluicegate/sluicegate/rule/HotParameterRule" "maxQueueingMillis" "J" (.long mq)) (H9013 : th ≠ ru) (H9014 : Sta Z h0 "com/example/sluicegate/sluicegate/rule/ValueShards" "SHARDS" "I" (.int (16 : Int32))) (H9015 : Sta Z h0 "java/util/concurrent/TimeUnit" "SECONDS" "Ljava/util/concurrent/TimeUnit;" (.ref aSec)) (H9016 : Exa Z h0 aSec "java/util/concurrent/TimeUnit") (H9017 : aSec < n0) (H9018 : Fld Z h0 aSec "java/util/concurrent/TimeUnit" "scale" "J" (.long (1000000000 : Int64))) (H9019 : Fld Z h0 aSec "java/util/concurrent/TimeUnit" "maxNanos" "J" (.long (9223372036 : Int64))) (H9020 : Fld Z h0 aSec "java/util/concurrent/TimeUnit" "maxMillis" "J" (.long (9223372036854775 : Int64))) (H9021 : Fld Z h0 aSec "java/util/concurrent/TimeUnit" "milliRatio" "I" (.int mr)) (H9022 : Sta Z h0 "java/util/concurrent/TimeUnit" "MILLISECONDS" "Ljava/util/concurrent/TimeUnit;" (.ref aMil)) (H9023 : Exa Z h0 aMil "java/util/concurrent/TimeUnit") (H9024 : aMil < n0) (H9025 : Fld Z h0 aMil "java/util/concurrent/TimeUnit" "scale" "J" (.long (1000000 : Int64))) (H9026 : Fld Z h0 aMil "java/util/concurrent/TimeUnit" "maxNanos" "J" (.long (9223372036854 : Int64))) (hdu : ¬ du < (1 : Int32)) (hmq : ¬ mq < (0 : Int64)) :
    MetFree l own_y31 (head1 (Jvm.Cond.code own_y31 prog_57_method_1_code 2 none :: ws) ({ frames := 6, cells := 55, slots := 779, locals := 82 } : Room)) (fun a U => a = #[(.ref th), (.ref ru)] ∧ Z.Warmed39 U.vm ∧ U.heap = h0) (fun _ _ _ _ _ => True) (fun _ U o U' => ∃ v L, o = .returned v ∧ (own_pv_Q Z th ru aSec aMil mr du mq h0 n0) v U'.heap L ∧ FrameEnd U o U' L ({ frames := 6, cells := 55, slots := 779, locals := 82 } : Room).cells ({ frames := 6, cells := 55, slots := 779, locals := 82 } : Room).slots) := by
  refine MetFree.of_bodySF (plainFor_of_name own_pv_pn) hisR ?_
  intro p e s m args below meth c s₁ Bd hml0 hP hK
  obtain ⟨rfl, hZ, hh⟩ := hP
  have hx := Bd.exec
  have hby := Bd.bytes
  have hml : c.maxLocals = 2 := hml0
  have hown : s.vm.findClass "com/example/sluicegate/sluicegate/rule/PacedValues" = some m.cls := findClass_of_methodNamed Bd.named
  have hnm := (name_of_methodNamed Bd.named Bd.method).1
  have hlk : meth.locks = false := Bd.notSynchronized
  have X0 : Stand p l e ({ frames := 6, cells := 55, slots := 779, locals := 82 } : Room) s m #[(.ref th), (.ref ru)] below meth c s₁ [] 0 0 := Stand.of_body Bd
  have e0 : s₁.heap = h0 := by rw [← hh, Bd.state]; rfl
  have N0 := Fr.nil n0
  have w_10 := hw _ (List.mem_of_getElem? (l := tables_1) (i := 10) rfl)
  have w_79 := hw _ (List.mem_of_getElem? (l := tables_1) (i := 79) rfl)
  have w_84 := hw _ (List.mem_of_getElem? (l := tables_1) (i := 84) rfl)
  have w_85 := hw _ (List.mem_of_getElem? (l := tables_1) (i := 85) rfl)
  have w_87 := hw _ (List.mem_of_getElem? (l := tables_1) (i := 87) rfl)
  have w_88 := hw _ (List.mem_of_getElem? (l := tables_1) (i := 88) rfl)
  have w_174 := hw _ (List.mem_of_getElem? (l := tables_1) (i := 174) rfl)
  have w_176 := hw _ (List.mem_of_getElem? (l := tables_1) (i := 176) rfl)
  have w_177 := hw _ (List.mem_of_getElem? (l := tables_1) (i := 177) rfl)
  have w_178 := hw _ (List.mem_of_getElem? (l := tables_1) (i := 178) rfl)
  have w_179 := hw _ (List.mem_of_getElem? (l := tables_1) (i := 179) rfl)
  have w_198 := hw _ (List.mem_of_getElem? (l := tables_1) (i := 198) rfl)
  have w_199 := hw _ (List.mem_of_getElem? (l := tables_1) (i := 199) rfl)
  have w_200 := hw _ (List.mem_of_getElem? (l := tables_1) (i := 200) rfl)
  have w_201 := hw _ (List.mem_of_getElem? (l := tables_1) (i := 201) rfl)
  have w_202 := hw _ (List.mem_of_getElem? (l := tables_1) (i := 202) rfl)
  have w_203 := hw _ (List.mem_of_getElem? (l := tables_1) (i := 203) rfl)
  have w_204 := hw _ (List.mem_of_getElem? (l := tables_1) (i := 204) rfl)
  have w_207 := hw _ (List.mem_of_getElem? (l := tables_1) (i := 207) rfl)
  have w_208 := hw _ (List.mem_of_getElem? (l := tables_1) (i := 208) rfl)
  have w_209 := hw _ (List.mem_of_getElem? (l := tables_1) (i := 209) rfl)
  have w_210 := hw _ (List.mem_of_getElem? (l := tables_1) (i := 210) rfl)
  have w_211 := hw _ (List.mem_of_getElem? (l := tables_1) (i := 211) rfl)
  have w_212 := hw _ (List.mem_of_getElem? (l := tables_1) (i := 212) rfl)
  have w_213 := hw _ (List.mem_of_getElem? (l := tables_1) (i := 213) rfl)
  have w_214 := hw _ (List.mem_of_getElem? (l := tables_1) (i := 214) rfl)
  have w_215 := hw _ (List.mem_of_getElem? (l := tables_1) (i := 215) rfl)
  have w_216 := hw _ (List.mem_of_getElem? (l := tables_1) (i := 216) rfl)
  show own_G p.tables e below (fun o U' => ∃ v L, o = .returned v ∧ (own_pv_Q Z th ru aSec aMil mr du mq h0 n0) v U'.heap L ∧ FrameEnd s o U' L ({ frames := 6, cells := 55, slots := 779, locals := 82 } : Room).cells ({ frames := 6, cells := 55, slots := 779, locals := 82 } : Room).slots) (s₁.setTop (entryFrame m #[(.ref th), (.ref ru)] 2))
  refine own_go (B := s₁.setTop (mkF m 0 #[rv th, rv ru] [])) (fun t k => castTop (own_pv_ef m th ru) k) ?_
  have K0 := Keep.refl h0 [th]
  have no_th_aSec : th ≠ aSec := fun q => absurd H9017 (by rw [← q]; exact Nat.not_lt.mpr H9001)
  have no_th_aMil : th ≠ aMil := fun q => absurd H9024 (by rw [← q]; exact Nat.not_lt.mpr H9001)
  refine own_go (B := (s₁.setTop (mkF m 1 #[rv th, rv ru] [(.ref th)]))) (fun t k => XS.aloadN X0.here hx rfl (hb hby own_pv_d0) rfl rfl k) ?_
  refine own_go (B := (s₁.setTop (mkF m 2 #[rv th, rv ru] [(.ref ru), (.ref th)]))) (fun t k => XS.aloadN X0.here hx rfl (hb hby own_pv_d1) rfl rfl k) ?_
  obtain ⟨_, _, ⟨T1, L1, k1, n1⟩, -, X1, ⟨Lc1, hQ1, l1, yy1, zz1⟩, st1⟩ := X0.specialBack hx (y := own_y14) rfl hown (mvT hZ w_84) (mvT hZ w_85) (mvT hZ w_88) (by decide) (backOf (W := 0) (own_hv l Z a0 hw [] th ru aSec mr du h0 n0 Z0 H9000 H9001 H9002 H9003 H9004 H9005 H9006 H9007 H9008 H9009 H9010 H9011 H9013 H9014 H9015 H9016 H9017 H9018 H9019 H9020 H9021 hdu) hZ w_88 w_87 (by decide) (by decide)) (g := (mkF m 2 #[rv th, rv ru] [(.ref ru), (.ref th)])) rfl (by rw [hml]; rfl) (Steps.refl _) (a := th) (argsL := [(.ref ru)]) (rest := []) (lenOf own_pd8 rfl) rfl (by show 2 * 0 + _ ≤ _; exact own_b rfl) (hb hby own_pv_d2) (fun _ _ => ⟨rfl, e0, (own_b rfl : 0 + 55 ≤ _), (own_b rfl : 0 + 779 ≤ _)⟩)
  dsimp only [Pt.U, Pt.locs, Pt.cells, Pt.slots] at X1 l1 yy1 zz1 st1 hQ1
  obtain ⟨rfl, Nq1, K1, g0_1, g1_1, g2_1⟩ := hQ1
  obtain ⟨L1, X1, N1⟩ := own_absC (K := 55) (K' := 779) X1 l1 yy1 zz1 N0 Nq1
  have F2 : n0 ≤ T1.heap.size := Nat.le_trans Z0 K1.1
  have F3 := Keep.trans K0 K1 (allS (Or.inl (List.mem_of_getElem? (i := 0) rfl)) all0)
  have F4 := Exa.keep H9000 K1
  have F13 := Exa.keep H9010 K1
  have F14 := Fld.keep H9011 K1 (ninS (Ne.symm H9013) nin0)
  have F15 := Fld.keep H9012 K1 (ninS (Ne.symm H9013) nin0)
  have F16 := own_sta_keep H9014 K1 (nsS (Exa.nostat H9000) ns0)
  have F17 := own_sta_keep H9015 K1 (nsS (Exa.nostat H9000) ns0)
  have F18 := Exa.keep H9016 K1
  have F19 := Fld.keep H9018 K1 (ninS (Ne.symm no_th_aSec) nin0)
  have F20 := Fld.keep H9019 K1 (ninS (Ne.symm no_th_aSec) nin0)
  have F21 := Fld.keep H9020 K1 (ninS (Ne.symm no_th_aSec) nin0)
  have F22 := Fld.keep H9021 K1 (ninS (Ne.symm no_th_aSec) nin0)
  have F23 := own_sta_keep H9022 K1 (nsS (Exa.nostat H9000) ns0)
  have F24 := Exa.keep H9023 K1
  have F25 := Fld.keep H9025 K1 (ninS (Ne.symm no_th_aMil) nin0)
  have F26 := Fld.keep H9026 K1 (ninS (Ne.symm no_th_aMil) nin0)
  refine own_tr (B := (T1.setTop (mkF m 5 #[rv th, rv ru] []))) st1 ?_
  refine own_go (B := (T1.setTop (mkF m 6 #[rv th, rv ru] [(.ref th)]))) (fun t k => XS.aloadN X1.here hx rfl (hb hby own_pv_d5) rfl rfl k) ?_
  obtain ⟨T27, X27, e27, st27⟩ := getS X1 hx hZ hown (host := "") w_198 Via.refl rfl F17 (g := (mkF m 6 #[rv th, rv ru] [(.ref th)])) rfl (hb hby own_pv_d6)
  refine own_go (B := (T27.setTop (mkF m 9 #[rv th, rv ru] [(.ref aSec), (.ref th)]))) st27 ?_
  refine own_go (B := (T27.setTop (mkF m 10 #[rv th, rv ru] [(.ref ru), (.ref aSec), (.ref th)]))) (fun t k => XS.aloadN X27.here hx rfl (hb hby own_pv_d9) rfl rfl k) ?_
  obtain ⟨cq28, kq28, qa28, qb28, qc28⟩ := isOf hZ e27 F13
  obtain ⟨_, _, ⟨T28, L28, k28, n28⟩, -, X28, ⟨Lc28, hQ28, l28, yy28, zz28⟩, st28⟩ := X27.virtualBack hx (y := own_y12) (z := own_y12) hown (mvT hZ w_199) (mvT hZ w_176) (notFace_of_selects (args := #[]) (mvT hZ w_178)) (mvT hZ w_178) (mvT hZ w_177) (by decide) (backOf (W := 2) (own_gd l Z a0 hw [] ru du T1.heap n0 F2 F14) hZ w_179 w_10 (by decide) (by decide)) qa28 qc28 (g := (mkF m 10 #[rv th, rv ru] [(.ref ru), (.ref aSec), (.ref th)])) rfl (by rw [hml]; rfl) (Steps.refl _) (argsL := []) (rest := [(.ref aSec), (.ref th)]) (lenOf own_pd6 rfl) rfl (by show 2 * 0 + _ ≤ _; exact own_b rfl) (hb hby own_pv_d10) (fun _ _ => ⟨rfl, e27, (own_b rfl : 55 + 0 ≤ _), (own_b rfl : 779 + 0 ≤ _)⟩)
  dsimp only [Pt.U, Pt.locs, Pt.cells, Pt.slots] at X28 l28 yy28 zz28 st28 hQ28
  obtain ⟨rfl, Nq28, eq28⟩ := hQ28
  obtain ⟨L28, X28, N28⟩ := own_absC (K := 55) (K' := 779) X28 l28 yy28 zz28 N1 Nq28
  have e28 : T28.heap = T1.heap := eq28
  refine own_tr (B := (T28.setTop (mkF m 13 #[rv th, rv ru] [(.int du), (.ref aSec), (.ref th)]))) st28 ?_
  refine own_go (B := (T28.setTop (mkF m 14 #[rv th, rv ru] [(.long (du.toInt64)), (.ref aSec), (.ref th)]))) (fun t k => XS.i2l X28.here hx rfl (hb hby own_pv_d13) rfl k) ?_
  obtain ⟨cq29, kq29, qa29, qb29, qc29⟩ := isOf hZ e28 F18
  obtain ⟨_, _, ⟨T29, L29, k29, n29⟩, -, X29, ⟨Lc29, hQ29, l29, yy29, zz29⟩, st29⟩ := X28.virtualBack hx (y := own_y15) (z := own_y15) hown (mvT hZ w_200) (mvT hZ w_201) (notFace_of_selects (args := #[]) (mvT hZ w_203)) (mvT hZ w_203) (mvT hZ w_202) (by decide) (backOf (W := 1) (own_tn l Z a0 hw [] aSec (du.toInt64) (1000000000 : Int64) (9223372036 : Int64) T1.heap n0 F19 F20 (by decide) (own_neg2 hdu)) hZ w_204 w_174 (by decide) (by decide)) qa29 qc29 (g := (mkF m 14 #[rv th, rv ru] [(.long (du.toInt64)), (.ref aSec), (.ref th)])) rfl (by rw [hml]; rfl) (Steps.refl _) (argsL := [(.long (du.toInt64))]) (rest := [(.ref th)]) (lenOf own_pd7 rfl) rfl (by show 2 * 0 + _ ≤ _; exact own_b rfl) (hb hby own_pv_d14) (fun _ _ => ⟨rfl, e28, (own_b rfl : 55 + 0 ≤ _), (own_b rfl : 779 + 0 ≤ _)⟩)
  dsimp only [Pt.U, Pt.locs, Pt.cells, Pt.slots] at X29 l29 yy29 zz29 st29 hQ29
  obtain ⟨rfl, Nq29, eq29⟩ := hQ29
  obtain ⟨L29, X29, N29⟩ := own_absC (K := 55) (K' := 779) X29 l29 yy29 zz29 N28 Nq29
  have e29 : T29.heap = T1.heap := eq29
  refine own_tr (B := (T29.setTop (mkF m 17 #[rv th, rv ru] [(.long (own_nan (du.toInt64) (1000000000 : Int64) (9223372036 : Int64))), (.ref th)]))) st29 ?_
  obtain ⟨T30, h30, X30, e30, W30, st30⟩ := putF X29 hx hZ hown (host := "") (Or.inl w_207) Via.refl e29 g1_1 g0_1 (Or.inr ⟨w_208, rfl, hnm⟩) w_79 (ty := .long) (by decide) rfl rfl (g := (mkF m 17 #[rv th, rv ru] [(.long (own_nan (du.toInt64) (1000000000 : Int64) (9223372036 : Int64))), (.ref th)])) rfl rfl (hb hby own_pv_d17)
  refine own_go (B := (T30.setTop (mkF m 20 #[rv th, rv ru] []))) st30 ?_
  obtain ⟨L30, X30, N30⟩ := own_abs X30 (Fr.snoc X30 N29 H9001)
  have F31 : n0 ≤ h30.size := by rw [W30.size]; exact F2
  have F32 := Keep.wr F3 W30 (Or.inl (List.mem_of_getElem? (i := 0) rfl))
  have F33 := Exa.wr W30 g0_1
  have F34 := Exa.wr W30 F13
  have F35 := Fld.other W30 F14 (Or.inl (Ne.symm H9013))
  have F36 := Fld.other W30 F15 (Or.inl (Ne.symm H9013))
  have F37 := Sta.wr W30 F16
  have F38 := Sta.wr W30 F17
  have F39 := Exa.wr W30 F18
  have F40 := Fld.other W30 F19 (Or.inl (Ne.symm no_th_aSec))
  have F41 := Fld.other W30 F20 (Or.inl (Ne.symm no_th_aSec))
  have F42 := Fld.other W30 F21 (Or.inl (Ne.symm no_th_aSec))
  have F43 := Fld.other W30 F22 (Or.inl (Ne.symm no_th_aSec))
  have F44 := Sta.wr W30 F23
  have F45 := Exa.wr W30 F24
  have F46 := Fld.other W30 F25 (Or.inl (Ne.symm no_th_aMil))
  have F47 := Fld.other W30 F26 (Or.inl (Ne.symm no_th_aMil))
  have F48 := Fld.same W30 g1_1
  have F49 := Fld.other W30 g2_1 (Or.inr (slot_ne (t := .long) (t' := .long) (Or.inr w_216) (Or.inr w_208) (by decide) (by decide) (by decide)))
  refine own_go (B := (T30.setTop (mkF m 21 #[rv th, rv ru] [(.ref th)]))) (fun t k => XS.aloadN X30.here hx rfl (hb hby own_pv_d20) rfl rfl k) ?_
  obtain ⟨T50, X50, e50, st50⟩ := getS X30 hx hZ hown (host := "") w_209 Via.refl e30 F44 (g := (mkF m 21 #[rv th, rv ru] [(.ref th)])) rfl (hb hby own_pv_d21)
  refine own_go (B := (T50.setTop (mkF m 24 #[rv th, rv ru] [(.ref aMil), (.ref th)]))) st50 ?_
  refine own_go (B := (T50.setTop (mkF m 25 #[rv th, rv ru] [(.ref ru), (.ref aMil), (.ref th)]))) (fun t k => XS.aloadN X50.here hx rfl (hb hby own_pv_d24) rfl rfl k) ?_
  obtain ⟨cq51, kq51, qa51, qb51, qc51⟩ := isOf hZ e50 F34
  obtain ⟨_, _, ⟨T51, L51, k51, n51⟩, -, X51, ⟨Lc51, hQ51, l51, yy51, zz51⟩, st51⟩ := X50.virtualBack hx (y := own_y16) (z := own_y16) hown (mvT hZ w_210) (mvT hZ w_211) (notFace_of_selects (args := #[]) (mvT hZ w_213)) (mvT hZ w_213) (mvT hZ w_212) (by decide) (backOf (W := 2) (own_gm l Z a0 hw [] ru mq h30 n0 F31 F36) hZ w_214 w_10 (by decide) (by decide)) qa51 qc51 (g := (mkF m 25 #[rv th, rv ru] [(.ref ru), (.ref aMil), (.ref th)])) rfl (by rw [hml]; rfl) (Steps.refl _) (argsL := []) (rest := [(.ref aMil), (.ref th)]) (lenOf own_pd9 rfl) rfl (by show 2 * 0 + _ ≤ _; exact own_b rfl) (hb hby own_pv_d25) (fun _ _ => ⟨rfl, e50, (own_b rfl : 55 + 0 ≤ _), (own_b rfl : 779 + 0 ≤ _)⟩)
  dsimp only [Pt.U, Pt.locs, Pt.cells, Pt.slots] at X51 l51 yy51 zz51 st51 hQ51
  obtain ⟨rfl, Nq51, eq51⟩ := hQ51
  obtain ⟨L51, X51, N51⟩ := own_absC (K := 55) (K' := 779) X51 l51 yy51 zz51 N30 Nq51
  have e51 : T51.heap = h30 := eq51
  refine own_tr (B := (T51.setTop (mkF m 28 #[rv th, rv ru] [(.long mq), (.ref aMil), (.ref th)]))) st51 ?_
  obtain ⟨cq52, kq52, qa52, qb52, qc52⟩ := isOf hZ e51 F45
  obtain ⟨_, _, ⟨T52, L52, k52, n52⟩, -, X52, ⟨Lc52, hQ52, l52, yy52, zz52⟩, st52⟩ := X51.virtualBack hx (y := own_y15) (z := own_y15) hown (mvT hZ w_200) (mvT hZ w_201) (notFace_of_selects (args := #[]) (mvT hZ w_203)) (mvT hZ w_203) (mvT hZ w_202) (by decide) (backOf (W := 1) (own_tn l Z a0 hw [] aMil mq (1000000 : Int64) (9223372036854 : Int64) h30 n0 F46 F47 (by decide) (own_neg3 hmq)) hZ w_204 w_174 (by decide) (by decide)) qa52 qc52 (g := (mkF m 28 #[rv th, rv ru] [(.long mq), (.ref aMil), (.ref th)])) rfl (by rw [hml]; rfl) (Steps.refl _) (argsL := [(.long mq)]) (rest := [(.ref th)]) (lenOf own_pd7 rfl) rfl (by show 2 * 0 + _ ≤ _; exact own_b rfl) (hb hby own_pv_d28) (fun _ _ => ⟨rfl, e51, (own_b rfl : 55 + 0 ≤ _), (own_b rfl : 779 + 0 ≤ _)⟩)
  dsimp only [Pt.U, Pt.locs, Pt.cells, Pt.slots] at X52 l52 yy52 zz52 st52 hQ52
  obtain ⟨rfl, Nq52, eq52⟩ := hQ52
  obtain ⟨L52, X52, N52⟩ := own_absC (K := 55) (K' := 779) X52 l52 yy52 zz52 N51 Nq52
  have e52 : T52.heap = h30 := eq52
  refine own_tr (B := (T52.setTop (mkF m 31 #[rv th, rv ru] [(.long (own_nan mq (1000000 : Int64) (9223372036854 : Int64))), (.ref th)]))) st52 ?_
  obtain ⟨T53, h53, X53, e53, W53, st53⟩ := putF X52 hx hZ hown (host := "") (Or.inl w_215) Via.refl e52 F49 F33 (Or.inr ⟨w_216, rfl, hnm⟩) w_79 (ty := .long) (by decide) rfl rfl (g := (mkF m 31 #[rv th, rv ru] [(.long (own_nan mq (1000000 : Int64) (9223372036854 : Int64))), (.ref th)])) rfl rfl (hb hby own_pv_d31)
  refine own_go (B := (T53.setTop (mkF m 34 #[rv th, rv ru] []))) st53 ?_
  obtain ⟨L53, X53, N53⟩ := own_abs X53 (Fr.snoc X53 N52 H9001)
  have F54 : n0 ≤ h53.size := by rw [W53.size]; exact F31
  have F55 := Keep.wr F32 W53 (Or.inl (List.mem_of_getElem? (i := 0) rfl))
  have F56 := Exa.wr W53 F33
  have F57 := Exa.wr W53 F34
  have F58 := Fld.other W53 F35 (Or.inl (Ne.symm H9013))
  have F59 := Fld.other W53 F36 (Or.inl (Ne.symm H9013))
  have F60 := Sta.wr W53 F37
  have F61 := Sta.wr W53 F38
  have F62 := Exa.wr W53 F39
  have F63 := Fld.other W53 F40 (Or.inl (Ne.symm no_th_aSec))
  have F64 := Fld.other W53 F41 (Or.inl (Ne.symm no_th_aSec))
  have F65 := Fld.other W53 F42 (Or.inl (Ne.symm no_th_aSec))
  have F66 := Fld.other W53 F43 (Or.inl (Ne.symm no_th_aSec))
  have F67 := Sta.wr W53 F44
  have F68 := Exa.wr W53 F45
  have F69 := Fld.other W53 F46 (Or.inl (Ne.symm no_th_aMil))
  have F70 := Fld.other W53 F47 (Or.inl (Ne.symm no_th_aMil))
  have F71 := Fld.other W53 F48 (Or.inr (slot_ne (t := .long) (t' := .long) (Or.inr w_208) (Or.inr w_216) (by decide) (by decide) (by decide)))
  have F72 := Fld.same W53 F49
  exact own_retV X53 hx hlk Bd.returns (hb hby own_pv_d34) (own_b rfl) (own_b rfl) (Q := (own_pv_Q Z th ru aSec aMil mr du mq h0 n0)) (by rw [e53]; exact ⟨rfl, N53, F55, F56, F71⟩)

theorem own_slc_d0 : decode prog_76_method_1_code 0 = .ok (.aload_n 0, 1) := by decide +kernel
theorem own_slc_d1 : decode prog_76_method_1_code 1 = .ok (.invokespecial 1, 3) := by decide +kernel
theorem own_slc_d4 : decode prog_76_method_1_code 4 = .ok (.aload_n 0, 1) := by decide +kernel
theorem own_slc_d5 : decode prog_76_method_1_code 5 = .ok (.lload_n 1, 1) := by decide +kernel
theorem own_slc_d6 : decode prog_76_method_1_code 6 = .ok (.putfield 7, 3) := by decide +kernel
theorem own_slc_d9 : decode prog_76_method_1_code 9 = .ok (.return_, 1) := by decide +kernel
theorem own_slc_pn : plainName "com/example/sluicegate/sluicegate/rule/Slot" = true := by first | (simp [plainName, overriddenIn]; done) | decide +kernel
theorem own_slc_ef (m : MethodId) (th : Addr) (pf : Int64) : entryFrame m #[(.ref th), (.long pf)] 3 = mkF m 0 #[rv th, .val (.long pf), .second] [] := by first | (simp [entryFrame, mkF, argsToLocals, Value.category]; done) | rfl
def own_slc_Q (Z : State) (th : Addr) (pf : Int64) (h0 : Heap) (n0 : Nat) (v : Option Value) (h : Heap) (L : List Loc) : Prop := v = none ∧ Fr n0 L ∧ Keep h0 h [th] ∧ Exa Z h th "com/example/sluicegate/sluicegate/rule/Slot" ∧ Fld Z h th "com/example/sluicegate/sluicegate/rule/Slot" "fromNanos" "J" (.long pf) ∧ Fld Z h th "com/example/sluicegate/sluicegate/rule/Slot" "waitNanos" "J" (.long (0 : Int64))
set_option maxRecDepth 65536 in
set_option maxHeartbeats 40000000 in
theorem own_slc (l : Launch) (Z : State) (a0 : Array Value) (hw : ∀ d ∈ tables_1, d.before a0 Z = true) (ws : List Jvm.Cond) (th : Addr) (pf : Int64) (h0 : Heap) (n0 : Nat) (Z0 : n0 ≤ h0.size) (H9000 : Exa Z h0 th "com/example/sluicegate/sluicegate/rule/Slot") (H9001 : n0 ≤ th) (H9002 : Fld Z h0 th "com/example/sluicegate/sluicegate/rule/Slot" "fromNanos" "J" (.long (0 : Int64))) (H9003 : Fld Z h0 th "com/example/sluicegate/sluicegate/rule/Slot" "waitNanos" "J" (.long (0 : Int64))) :
    MetFree l own_y32 (head1 (Jvm.Cond.code own_y32 prog_76_method_1_code 3 none :: ws) ({ frames := 1, cells := 0, slots := 0, locals := 12 } : Room)) (fun a U => a = #[(.ref th), (.long pf)] ∧ Z.Warmed39 U.vm ∧ U.heap = h0) (fun _ _ _ _ _ => True) (fun _ U o U' => ∃ v L, o = .returned v ∧ (own_slc_Q Z th pf h0 n0) v U'.heap L ∧ FrameEnd U o U' L ({ frames := 1, cells := 0, slots := 0, locals := 12 } : Room).cells ({ frames := 1, cells := 0, slots := 0, locals := 12 } : Room).slots) := by
  refine MetFree.of_bodySF (plainFor_of_name own_slc_pn) hisR ?_
  intro p e s m args below meth c s₁ Bd hml0 hP hK
  obtain ⟨rfl, hZ, hh⟩ := hP
  have hx := Bd.exec
  have hby := Bd.bytes
  have hml : c.maxLocals = 3 := hml0
  have hown : s.vm.findClass "com/example/sluicegate/sluicegate/rule/Slot" = some m.cls := findClass_of_methodNamed Bd.named
  have hnm := (name_of_methodNamed Bd.named Bd.method).1
  have hlk : meth.locks = false := Bd.notSynchronized
  have X0 : Stand p l e ({ frames := 1, cells := 0, slots := 0, locals := 12 } : Room) s m #[(.ref th), (.long pf)] below meth c s₁ [] 0 0 := Stand.of_body Bd
  have e0 : s₁.heap = h0 := by rw [← hh, Bd.state]; rfl
  have N0 := Fr.nil n0
  have w_38 := hw _ (List.mem_of_getElem? (l := tables_1) (i := 38) rfl)
  have w_39 := hw _ (List.mem_of_getElem? (l := tables_1) (i := 39) rfl)
  have w_218 := hw _ (List.mem_of_getElem? (l := tables_1) (i := 218) rfl)
  have w_223 := hw _ (List.mem_of_getElem? (l := tables_1) (i := 223) rfl)
  have w_224 := hw _ (List.mem_of_getElem? (l := tables_1) (i := 224) rfl)
  have w_225 := hw _ (List.mem_of_getElem? (l := tables_1) (i := 225) rfl)
  have w_232 := hw _ (List.mem_of_getElem? (l := tables_1) (i := 232) rfl)
  show own_G p.tables e below (fun o U' => ∃ v L, o = .returned v ∧ (own_slc_Q Z th pf h0 n0) v U'.heap L ∧ FrameEnd s o U' L ({ frames := 1, cells := 0, slots := 0, locals := 12 } : Room).cells ({ frames := 1, cells := 0, slots := 0, locals := 12 } : Room).slots) (s₁.setTop (entryFrame m #[(.ref th), (.long pf)] 3))
  refine own_go (B := s₁.setTop (mkF m 0 #[rv th, .val (.long pf), .second] [])) (fun t k => castTop (own_slc_ef m th pf) k) ?_
  have K0 := Keep.refl h0 [th]
  refine own_go (B := (s₁.setTop (mkF m 1 #[rv th, .val (.long pf), .second] [(.ref th)]))) (fun t k => XS.aloadN X0.here hx rfl (hb hby own_slc_d0) rfl rfl k) ?_
  obtain ⟨T1, X1, e1, st1⟩ := initO X0 hx hZ hown w_223 w_38 w_39 e0 (g := (mkF m 1 #[rv th, .val (.long pf), .second] [(.ref th)])) rfl (by rw [hml]; rfl) rfl (hb hby own_slc_d1) (by decide) (W := 0) (by show 2 * 0 + _ ≤ _; exact own_b rfl) (by decide)
  refine own_go (B := (T1.setTop (mkF m 4 #[rv th, .val (.long pf), .second] []))) st1 ?_
  refine own_go (B := (T1.setTop (mkF m 5 #[rv th, .val (.long pf), .second] [(.ref th)]))) (fun t k => XS.aloadN X1.here hx rfl (hb hby own_slc_d4) rfl rfl k) ?_
  refine own_go (B := (T1.setTop (mkF m 6 #[rv th, .val (.long pf), .second] [(.long pf), (.ref th)]))) (fun t k => XS.lloadN X1.here hx rfl (hb hby own_slc_d5) rfl k) ?_
  obtain ⟨T2, h2, X2, e2, W2, st2⟩ := putF X1 hx hZ hown (host := "") (Or.inl w_224) Via.refl e1 H9002 H9000 (Or.inr ⟨w_225, rfl, hnm⟩) w_218 (ty := .long) (by decide) rfl rfl (g := (mkF m 6 #[rv th, .val (.long pf), .second] [(.long pf), (.ref th)])) rfl rfl (hb hby own_slc_d6)
  refine own_go (B := (T2.setTop (mkF m 9 #[rv th, .val (.long pf), .second] []))) st2 ?_
  obtain ⟨L2, X2, N2⟩ := own_abs X2 (Fr.snoc X2 N0 H9001)
  have F3 : n0 ≤ h2.size := by rw [W2.size]; exact Z0
  have F4 := Keep.wr K0 W2 (Or.inl (List.mem_of_getElem? (i := 0) rfl))
  have F5 := Exa.wr W2 H9000
  have F6 := Fld.same W2 H9002
  have F7 := Fld.other W2 H9003 (Or.inr (slot_ne (t := .long) (t' := .long) (Or.inl w_232) (Or.inr w_225) (by decide) (by decide) (by decide)))
  exact own_retV X2 hx hlk Bd.returns (hb hby own_slc_d9) (own_b rfl) (own_b rfl) (Q := (own_slc_Q Z th pf h0 n0)) (by rw [e2]; exact ⟨rfl, N2, F4, F5, F6, F7⟩)

theorem own_wl_d0 : decode prog_76_method_5_code 0 = .ok (.aload_n 0, 1) := by decide +kernel
theorem own_wl_d1 : decode prog_76_method_5_code 1 = .ok (.aload_n 0, 1) := by decide +kernel
theorem own_wl_d2 : decode prog_76_method_5_code 2 = .ok (.getfield 13, 3) := by decide +kernel
theorem own_wl_d5 : decode prog_76_method_5_code 5 = .ok (.lload_n 1, 1) := by decide +kernel
theorem own_wl_d6 : decode prog_76_method_5_code 6 = .ok (.invokestatic 16, 3) := by decide +kernel
theorem own_wl_d9 : decode prog_76_method_5_code 9 = .ok (.putfield 13, 3) := by decide +kernel
theorem own_wl_d12 : decode prog_76_method_5_code 12 = .ok (.return_, 1) := by decide +kernel
theorem own_wl_pn : plainName "com/example/sluicegate/sluicegate/rule/Slot" = true := by first | (simp [plainName, overriddenIn]; done) | decide +kernel
theorem own_wl_ef (m : MethodId) (th : Addr) (pw : Int64) : entryFrame m #[(.ref th), (.long pw)] 3 = mkF m 0 #[rv th, .val (.long pw), .second] [] := by first | (simp [entryFrame, mkF, argsToLocals, Value.category]; done) | rfl
def own_wl_Q (Z : State) (th : Addr) (pw : Int64) (pf : Int64) (h0 : Heap) (n0 : Nat) (v : Option Value) (h : Heap) (L : List Loc) : Prop := v = none ∧ Fr n0 L ∧ Keep h0 h [th] ∧ Exa Z h th "com/example/sluicegate/sluicegate/rule/Slot" ∧ Fld Z h th "com/example/sluicegate/sluicegate/rule/Slot" "fromNanos" "J" (.long pf) ∧ Fld Z h th "com/example/sluicegate/sluicegate/rule/Slot" "waitNanos" "J" (.long (own_maxL (0 : Int64) pw))
set_option maxRecDepth 65536 in
set_option maxHeartbeats 40000000 in
theorem own_wl (l : Launch) (Z : State) (a0 : Array Value) (hw : ∀ d ∈ tables_1, d.before a0 Z = true) (ws : List Jvm.Cond) (th : Addr) (pw : Int64) (pf : Int64) (h0 : Heap) (n0 : Nat) (Z0 : n0 ≤ h0.size) (H9000 : Exa Z h0 th "com/example/sluicegate/sluicegate/rule/Slot") (H9001 : n0 ≤ th) (H9002 : Fld Z h0 th "com/example/sluicegate/sluicegate/rule/Slot" "fromNanos" "J" (.long pf)) (H9003 : Fld Z h0 th "com/example/sluicegate/sluicegate/rule/Slot" "waitNanos" "J" (.long (0 : Int64))) :
    MetFree l own_y33 (head1 (Jvm.Cond.code own_y33 prog_76_method_5_code 3 none :: ws) ({ frames := 1, cells := 0, slots := 0, locals := 16 } : Room)) (fun a U => a = #[(.ref th), (.long pw)] ∧ Z.Warmed39 U.vm ∧ U.heap = h0) (fun _ _ _ _ _ => True) (fun _ U o U' => ∃ v L, o = .returned v ∧ (own_wl_Q Z th pw pf h0 n0) v U'.heap L ∧ FrameEnd U o U' L ({ frames := 1, cells := 0, slots := 0, locals := 16 } : Room).cells ({ frames := 1, cells := 0, slots := 0, locals := 16 } : Room).slots) := by
  refine MetFree.of_bodySF (plainFor_of_name own_wl_pn) hisR ?_
  intro p e s m args below meth c s₁ Bd hml0 hP hK
  obtain ⟨rfl, hZ, hh⟩ := hP
  have hx := Bd.exec
  have hby := Bd.bytes
  have hml : c.maxLocals = 3 := hml0
  have hown : s.vm.findClass "com/example/sluicegate/sluicegate/rule/Slot" = some m.cls := findClass_of_methodNamed Bd.named
  have hnm := (name_of_methodNamed Bd.named Bd.method).1
  have hlk : meth.locks = false := Bd.notSynchronized
  have X0 : Stand p l e ({ frames := 1, cells := 0, slots := 0, locals := 16 } : Room) s m #[(.ref th), (.long pw)] below meth c s₁ [] 0 0 := Stand.of_body Bd
  have e0 : s₁.heap = h0 := by rw [← hh, Bd.state]; rfl
  have N0 := Fr.nil n0
  have w_3 := hw _ (List.mem_of_getElem? (l := tables_1) (i := 3) rfl)
  have w_218 := hw _ (List.mem_of_getElem? (l := tables_1) (i := 218) rfl)
  have w_225 := hw _ (List.mem_of_getElem? (l := tables_1) (i := 225) rfl)
  have w_231 := hw _ (List.mem_of_getElem? (l := tables_1) (i := 231) rfl)
  have w_232 := hw _ (List.mem_of_getElem? (l := tables_1) (i := 232) rfl)
  have w_233 := hw _ (List.mem_of_getElem? (l := tables_1) (i := 233) rfl)
  have w_234 := hw _ (List.mem_of_getElem? (l := tables_1) (i := 234) rfl)
  have w_235 := hw _ (List.mem_of_getElem? (l := tables_1) (i := 235) rfl)
  show own_G p.tables e below (fun o U' => ∃ v L, o = .returned v ∧ (own_wl_Q Z th pw pf h0 n0) v U'.heap L ∧ FrameEnd s o U' L ({ frames := 1, cells := 0, slots := 0, locals := 16 } : Room).cells ({ frames := 1, cells := 0, slots := 0, locals := 16 } : Room).slots) (s₁.setTop (entryFrame m #[(.ref th), (.long pw)] 3))
  refine own_go (B := s₁.setTop (mkF m 0 #[rv th, .val (.long pw), .second] [])) (fun t k => castTop (own_wl_ef m th pw) k) ?_
  have K0 := Keep.refl h0 [th]
  refine own_go (B := (s₁.setTop (mkF m 1 #[rv th, .val (.long pw), .second] [(.ref th)]))) (fun t k => XS.aloadN X0.here hx rfl (hb hby own_wl_d0) rfl rfl k) ?_
  refine own_go (B := (s₁.setTop (mkF m 2 #[rv th, .val (.long pw), .second] [(.ref th), (.ref th)]))) (fun t k => XS.aloadN X0.here hx rfl (hb hby own_wl_d1) rfl rfl k) ?_
  obtain ⟨T1, X1, e1, st1⟩ := getF X0 hx hZ hown (host := "") (Or.inl w_231) Via.refl e0 H9003 (g := (mkF m 2 #[rv th, .val (.long pw), .second] [(.ref th), (.ref th)])) rfl rfl (hb hby own_wl_d2)
  refine own_go (B := (T1.setTop (mkF m 5 #[rv th, .val (.long pw), .second] [(.long (0 : Int64)), (.ref th)]))) st1 ?_
  refine own_go (B := (T1.setTop (mkF m 6 #[rv th, .val (.long pw), .second] [(.long pw), (.long (0 : Int64)), (.ref th)]))) (fun t k => XS.lloadN X1.here hx rfl (hb hby own_wl_d5) rfl k) ?_
  obtain ⟨_, _, ⟨T2, L2, k2, n2⟩, -, X2, ⟨Lc2, hQ2, l2, yy2, zz2⟩, st2⟩ := Jvm.LawKit.callS X1 hx (y := own_y17) hown (mvT hZ w_233) (mvT hZ w_234) (mvT hZ w_3) (mvT hZ w_235) (by decide) (backOf (W := 1) (own_mmaxl l Z a0 hw [] (0 : Int64) pw h0 n0) hZ w_235 w_3 (by decide) (by decide)) (g := (mkF m 6 #[rv th, .val (.long pw), .second] [(.long pw), (.long (0 : Int64)), (.ref th)])) rfl (by rw [hml]; rfl) (argsL := [(.long (0 : Int64)), (.long pw)]) (rest := [(.ref th)]) (lenOf own_pd10 rfl) rfl (by show 2 * 0 + _ ≤ _; exact own_b rfl) (hb hby own_wl_d6) (fun _ _ => ⟨rfl, e1, (own_b rfl : 0 + 0 ≤ _), (own_b rfl : 0 + 0 ≤ _)⟩)
  dsimp only [Pt.U, Pt.locs, Pt.cells, Pt.slots] at X2 l2 yy2 zz2 st2 hQ2
  obtain ⟨rfl, Nq2, eq2⟩ := hQ2
  obtain ⟨L2, X2, N2⟩ := own_absC (K := 0) (K' := 0) X2 l2 yy2 zz2 N0 Nq2
  have e2 : T2.heap = h0 := eq2
  refine own_go (B := (T2.setTop (mkF m 9 #[rv th, .val (.long pw), .second] [(.long (own_maxL (0 : Int64) pw)), (.ref th)]))) st2 ?_
  obtain ⟨T3, h3, X3, e3, W3, st3⟩ := putF X2 hx hZ hown (host := "") (Or.inl w_231) Via.refl e2 H9003 H9000 (Or.inl w_232) w_218 (ty := .long) (by decide) rfl rfl (g := (mkF m 9 #[rv th, .val (.long pw), .second] [(.long (own_maxL (0 : Int64) pw)), (.ref th)])) rfl rfl (hb hby own_wl_d9)
  refine own_go (B := (T3.setTop (mkF m 12 #[rv th, .val (.long pw), .second] []))) st3 ?_
  obtain ⟨L3, X3, N3⟩ := own_abs X3 (Fr.snoc X3 N2 H9001)
  have F4 : n0 ≤ h3.size := by rw [W3.size]; exact Z0
  have F5 := Keep.wr K0 W3 (Or.inl (List.mem_of_getElem? (i := 0) rfl))
  have F6 := Exa.wr W3 H9000
  have F7 := Fld.other W3 H9002 (Or.inr (slot_ne (t := .long) (t' := .long) (Or.inr w_225) (Or.inl w_232) (by decide) (by decide) (by decide)))
  have F8 := Fld.same W3 H9003
  exact own_retV X3 hx hlk Bd.returns (hb hby own_wl_d12) (own_b rfl) (own_b rfl) (Q := (own_wl_Q Z th pw pf h0 n0)) (by rw [e3]; exact ⟨rfl, N3, F5, F6, F7, F8⟩)

theorem own_sc_d0 : decode prog_46_method_46_code 0 = .ok (.lload_n 0, 1) := by decide +kernel
theorem own_sc_d1 : decode prog_46_method_46_code 1 = .ok (.ldc2_w 477, 3) := by decide +kernel
theorem own_sc_d4 : decode prog_46_method_46_code 4 = .ok (.lload_n 2, 1) := by decide +kernel
theorem own_sc_d5 : decode prog_46_method_46_code 5 = .ok (.ldiv, 1) := by decide +kernel
theorem own_sc_d6 : decode prog_46_method_46_code 6 = .ok (.lcmp, 1) := by decide +kernel
theorem own_sc_d7 : decode prog_46_method_46_code 7 = .ok (.ifCond .gt 44, 3) := by decide +kernel
theorem own_sc_d10 : decode prog_46_method_46_code 10 = .ok (.lload_n 0, 1) := by decide +kernel
theorem own_sc_d11 : decode prog_46_method_46_code 11 = .ok (.lload_n 2, 1) := by decide +kernel
theorem own_sc_d12 : decode prog_46_method_46_code 12 = .ok (.lmul, 1) := by decide +kernel
theorem own_sc_d13 : decode prog_46_method_46_code 13 = .ok (.lstore 7, 2) := by decide +kernel
theorem own_sc_d15 : decode prog_46_method_46_code 15 = .ok (.lload 7, 2) := by decide +kernel
theorem own_sc_d17 : decode prog_46_method_46_code 17 = .ok (.lload 4, 2) := by decide +kernel
theorem own_sc_d19 : decode prog_46_method_46_code 19 = .ok (.ldiv, 1) := by decide +kernel
theorem own_sc_d20 : decode prog_46_method_46_code 20 = .ok (.lstore 9, 2) := by decide +kernel
theorem own_sc_d22 : decode prog_46_method_46_code 22 = .ok (.aload 6, 2) := by decide +kernel
theorem own_sc_d24 : decode prog_46_method_46_code 24 = .ok (.getstatic 479, 3) := by decide +kernel
theorem own_sc_d27 : decode prog_46_method_46_code 27 = .ok (.if_acmp .ne 21, 3) := by decide +kernel
theorem own_sc_d30 : decode prog_46_method_46_code 30 = .ok (.lload 9, 2) := by decide +kernel
theorem own_sc_d32 : decode prog_46_method_46_code 32 = .ok (.lload 4, 2) := by decide +kernel
theorem own_sc_d34 : decode prog_46_method_46_code 34 = .ok (.lmul, 1) := by decide +kernel
theorem own_sc_d35 : decode prog_46_method_46_code 35 = .ok (.lload 7, 2) := by decide +kernel
theorem own_sc_d37 : decode prog_46_method_46_code 37 = .ok (.lcmp, 1) := by decide +kernel
theorem own_sc_d38 : decode prog_46_method_46_code 38 = .ok (.ifCond .eq 10, 3) := by decide +kernel
theorem own_sc_d41 : decode prog_46_method_46_code 41 = .ok (.lload 9, 2) := by decide +kernel
theorem own_sc_d43 : decode prog_46_method_46_code 43 = .ok (.lconst 1, 1) := by decide +kernel
theorem own_sc_d44 : decode prog_46_method_46_code 44 = .ok (.ladd, 1) := by decide +kernel
theorem own_sc_d45 : decode prog_46_method_46_code 45 = .ok (.goto 5, 3) := by decide +kernel
theorem own_sc_d48 : decode prog_46_method_46_code 48 = .ok (.lload 9, 2) := by decide +kernel
theorem own_sc_d50 : decode prog_46_method_46_code 50 = .ok (.lreturn, 1) := by decide +kernel
theorem own_sc_pn : plainName "com/example/sluicegate/sluicegate/rule/HotValues" = true := by first | (simp [plainName, overriddenIn]; done) | decide +kernel
theorem own_sc_ef (m : MethodId) (dn : Int64) (lm : Int64) (ac : Addr) : entryFrame m #[(.long (1 : Int64)), (.long dn), (.long lm), (.ref ac)] 11 = mkF m 0 #[.val (.long (1 : Int64)), .second, .val (.long dn), .second, .val (.long lm), .second, rv ac, .unset, .unset, .unset, .unset] [] := by first | (simp [entryFrame, mkF, argsToLocals, Value.category]; done) | rfl
def own_sc_Q (Z : State) (dn : Int64) (lm : Int64) (ac : Addr) (h0 : Heap) (n0 : Nat) (v : Option Value) (h : Heap) (L : List Loc) : Prop := ∃ r, v = some (.long r) ∧ Fr n0 L ∧ h = h0
set_option maxRecDepth 65536 in
set_option maxHeartbeats 40000000 in
theorem own_sc (l : Launch) (Z : State) (a0 : Array Value) (hw : ∀ d ∈ tables_1, d.before a0 Z = true) (ws : List Jvm.Cond) (dn : Int64) (lm : Int64) (ac : Addr) (h0 : Heap) (n0 : Nat) (Z0 : n0 ≤ h0.size) (H9000 : Sta Z h0 "java/math/RoundingMode" "CEILING" "Ljava/math/RoundingMode;" (.ref ac)) (hdn : ¬ dn = (0 : Int64)) (hlm : ¬ lm = (0 : Int64)) (hdv : ¬ ((9223372036854775807 : Int64) / dn) < (1 : Int64)) :
    MetFree l own_y36 (head1 (Jvm.Cond.code own_y36 prog_46_method_46_code 11 (some .long) :: ws) ({ frames := 0, cells := 0, slots := 0, locals := 0 } : Room)) (fun a U => a = #[(.long (1 : Int64)), (.long dn), (.long lm), (.ref ac)] ∧ Z.Warmed39 U.vm ∧ U.heap = h0) (fun _ _ _ _ _ => True) (fun _ U o U' => ∃ v L, o = .returned v ∧ (own_sc_Q Z dn lm ac h0 n0) v U'.heap L ∧ FrameEnd U o U' L ({ frames := 0, cells := 0, slots := 0, locals := 0 } : Room).cells ({ frames := 0, cells := 0, slots := 0, locals := 0 } : Room).slots) := by
  refine MetFree.of_bodySF (plainFor_of_name own_sc_pn) hisR ?_
  intro p e s m args below meth c s₁ Bd hml0 hP hK
  obtain ⟨rfl, hZ, hh⟩ := hP
  have hx := Bd.exec
  have hby := Bd.bytes
  have hml : c.maxLocals = 11 := hml0
  have hown : s.vm.findClass "com/example/sluicegate/sluicegate/rule/HotValues" = some m.cls := findClass_of_methodNamed Bd.named
  have hnm := (name_of_methodNamed Bd.named Bd.method).1
  have hlk : meth.locks = false := Bd.notSynchronized
  have X0 : Stand p l e ({ frames := 0, cells := 0, slots := 0, locals := 0 } : Room) s m #[(.long (1 : Int64)), (.long dn), (.long lm), (.ref ac)] below meth c s₁ [] 0 0 := Stand.of_body Bd
  have e0 : s₁.heap = h0 := by rw [← hh, Bd.state]; rfl
  have N0 := Fr.nil n0
  have w_268 := hw _ (List.mem_of_getElem? (l := tables_1) (i := 268) rfl)
  have w_269 := hw _ (List.mem_of_getElem? (l := tables_1) (i := 269) rfl)
  show own_G p.tables e below (fun o U' => ∃ v L, o = .returned v ∧ (own_sc_Q Z dn lm ac h0 n0) v U'.heap L ∧ FrameEnd s o U' L ({ frames := 0, cells := 0, slots := 0, locals := 0 } : Room).cells ({ frames := 0, cells := 0, slots := 0, locals := 0 } : Room).slots) (s₁.setTop (entryFrame m #[(.long (1 : Int64)), (.long dn), (.long lm), (.ref ac)] 11))
  refine own_go (B := s₁.setTop (mkF m 0 #[.val (.long (1 : Int64)), .second, .val (.long dn), .second, .val (.long lm), .second, rv ac, .unset, .unset, .unset, .unset] [])) (fun t k => castTop (own_sc_ef m dn lm ac) k) ?_
  refine own_go (B := (s₁.setTop (mkF m 1 #[.val (.long (1 : Int64)), .second, .val (.long dn), .second, .val (.long lm), .second, rv ac, .unset, .unset, .unset, .unset] [(.long (1 : Int64))]))) (fun t k => XS.lloadN X0.here hx rfl (hb hby own_sc_d0) rfl k) ?_
  have lc1 := X0.ldc2Long hx hown (v := (9223372036854775807 : Int64)) (mvT hZ w_268) (g := (mkF m 1 #[.val (.long (1 : Int64)), .second, .val (.long dn), .second, .val (.long lm), .second, rv ac, .unset, .unset, .unset, .unset] [(.long (1 : Int64))])) rfl (hb hby own_sc_d1)
  refine own_go (B := (s₁.setTop (mkF m 4 #[.val (.long (1 : Int64)), .second, .val (.long dn), .second, .val (.long lm), .second, rv ac, .unset, .unset, .unset, .unset] [(.long (9223372036854775807 : Int64)), (.long (1 : Int64))]))) lc1 ?_
  refine own_go (B := (s₁.setTop (mkF m 5 #[.val (.long (1 : Int64)), .second, .val (.long dn), .second, .val (.long lm), .second, rv ac, .unset, .unset, .unset, .unset] [(.long dn), (.long (9223372036854775807 : Int64)), (.long (1 : Int64))]))) (fun t k => XS.lloadN X0.here hx rfl (hb hby own_sc_d4) rfl k) ?_
  refine own_go (B := (s₁.setTop (mkF m 6 #[.val (.long (1 : Int64)), .second, .val (.long dn), .second, .val (.long lm), .second, rv ac, .unset, .unset, .unset, .unset] [(.long ((9223372036854775807 : Int64) / dn)), (.long (1 : Int64))]))) (fun t k => XS.ldiv (x := (9223372036854775807 : Int64)) (y := dn) X0.here hx rfl (hb hby own_sc_d5) rfl hdn k) ?_
  refine own_go (B := (s₁.setTop (mkF m 7 #[.val (.long (1 : Int64)), .second, .val (.long dn), .second, .val (.long lm), .second, rv ac, .unset, .unset, .unset, .unset] [(.int (lcmpW (1 : Int64) ((9223372036854775807 : Int64) / dn)))]))) (fun t k => XS.lcmp (x := (1 : Int64)) (y := ((9223372036854775807 : Int64) / dn)) X0.here hx rfl (hb hby own_sc_d6) rfl k) ?_
  have hc7 : ¬ ((9223372036854775807 : Int64) / dn) < (1 : Int64) := hdv
  refine own_lifN X0 hx (hb hby own_sc_d7) (pn := 10) rfl hc7 ?_
  refine own_go (B := (s₁.setTop (mkF m 11 #[.val (.long (1 : Int64)), .second, .val (.long dn), .second, .val (.long lm), .second, rv ac, .unset, .unset, .unset, .unset] [(.long (1 : Int64))]))) (fun t k => XS.lloadN X0.here hx rfl (hb hby own_sc_d10) rfl k) ?_
  refine own_go (B := (s₁.setTop (mkF m 12 #[.val (.long (1 : Int64)), .second, .val (.long dn), .second, .val (.long lm), .second, rv ac, .unset, .unset, .unset, .unset] [(.long dn), (.long (1 : Int64))]))) (fun t k => XS.lloadN X0.here hx rfl (hb hby own_sc_d11) rfl k) ?_
  refine own_go (B := (s₁.setTop (mkF m 13 #[.val (.long (1 : Int64)), .second, .val (.long dn), .second, .val (.long lm), .second, rv ac, .unset, .unset, .unset, .unset] [(.long ((1 : Int64) * dn))]))) (fun t k => XS.lmul (x := (1 : Int64)) (y := dn) X0.here hx rfl (hb hby own_sc_d12) rfl k) ?_
  obtain ⟨z13, hz13⟩ : ∃ z : Int64, z = ((1 : Int64) * dn) := ⟨_, rfl⟩
  rw [← hz13]
  refine own_go (B := (s₁.setTop (mkF m 15 #[.val (.long (1 : Int64)), .second, .val (.long dn), .second, .val (.long lm), .second, rv ac, .val (.long z13), .second, .unset, .unset] []))) (fun t k => XS.lstore X0.here hx rfl (hb hby own_sc_d13) rfl (l' := #[.val (.long (1 : Int64)), .second, .val (.long dn), .second, .val (.long lm), .second, rv ac, .val (.long z13), .second, .unset, .unset]) rfl k) ?_
  refine own_go (B := (s₁.setTop (mkF m 17 #[.val (.long (1 : Int64)), .second, .val (.long dn), .second, .val (.long lm), .second, rv ac, .val (.long z13), .second, .unset, .unset] [(.long z13)]))) (fun t k => XS.lload X0.here hx rfl (hb hby own_sc_d15) rfl k) ?_
  refine own_go (B := (s₁.setTop (mkF m 19 #[.val (.long (1 : Int64)), .second, .val (.long dn), .second, .val (.long lm), .second, rv ac, .val (.long z13), .second, .unset, .unset] [(.long lm), (.long z13)]))) (fun t k => XS.lload X0.here hx rfl (hb hby own_sc_d17) rfl k) ?_
  refine own_go (B := (s₁.setTop (mkF m 20 #[.val (.long (1 : Int64)), .second, .val (.long dn), .second, .val (.long lm), .second, rv ac, .val (.long z13), .second, .unset, .unset] [(.long (z13 / lm))]))) (fun t k => XS.ldiv (x := z13) (y := lm) X0.here hx rfl (hb hby own_sc_d19) rfl hlm k) ?_
  obtain ⟨z20, hz20⟩ : ∃ z : Int64, z = (z13 / lm) := ⟨_, rfl⟩
  rw [← hz20]
  refine own_go (B := (s₁.setTop (mkF m 22 #[.val (.long (1 : Int64)), .second, .val (.long dn), .second, .val (.long lm), .second, rv ac, .val (.long z13), .second, .val (.long z20), .second] []))) (fun t k => XS.lstore X0.here hx rfl (hb hby own_sc_d20) rfl (l' := #[.val (.long (1 : Int64)), .second, .val (.long dn), .second, .val (.long lm), .second, rv ac, .val (.long z13), .second, .val (.long z20), .second]) rfl k) ?_
  refine own_go (B := (s₁.setTop (mkF m 24 #[.val (.long (1 : Int64)), .second, .val (.long dn), .second, .val (.long lm), .second, rv ac, .val (.long z13), .second, .val (.long z20), .second] [(.ref ac)]))) (fun t k => XS.aload X0.here hx rfl (hb hby own_sc_d22) rfl rfl k) ?_
  obtain ⟨T2, X2, e2, st2⟩ := getS X0 hx hZ hown (host := "") w_269 Via.refl e0 H9000 (g := (mkF m 24 #[.val (.long (1 : Int64)), .second, .val (.long dn), .second, .val (.long lm), .second, rv ac, .val (.long z13), .second, .val (.long z20), .second] [(.ref ac)])) rfl (hb hby own_sc_d24)
  refine own_go (B := (T2.setTop (mkF m 27 #[.val (.long (1 : Int64)), .second, .val (.long dn), .second, .val (.long lm), .second, rv ac, .val (.long z13), .second, .val (.long z20), .second] [(.ref ac), (.ref ac)]))) st2 ?_
  have hc27 : ac = ac := rfl
  refine own_acmpAE X2 hx (hb hby own_sc_d27) (pc' := 30) (by decide) (by decide) hc27 ?_
  refine own_go (B := (T2.setTop (mkF m 32 #[.val (.long (1 : Int64)), .second, .val (.long dn), .second, .val (.long lm), .second, rv ac, .val (.long z13), .second, .val (.long z20), .second] [(.long z20)]))) (fun t k => XS.lload X2.here hx rfl (hb hby own_sc_d30) rfl k) ?_
  refine own_go (B := (T2.setTop (mkF m 34 #[.val (.long (1 : Int64)), .second, .val (.long dn), .second, .val (.long lm), .second, rv ac, .val (.long z13), .second, .val (.long z20), .second] [(.long lm), (.long z20)]))) (fun t k => XS.lload X2.here hx rfl (hb hby own_sc_d32) rfl k) ?_
  refine own_go (B := (T2.setTop (mkF m 35 #[.val (.long (1 : Int64)), .second, .val (.long dn), .second, .val (.long lm), .second, rv ac, .val (.long z13), .second, .val (.long z20), .second] [(.long (z20 * lm))]))) (fun t k => XS.lmul (x := z20) (y := lm) X2.here hx rfl (hb hby own_sc_d34) rfl k) ?_
  refine own_go (B := (T2.setTop (mkF m 37 #[.val (.long (1 : Int64)), .second, .val (.long dn), .second, .val (.long lm), .second, rv ac, .val (.long z13), .second, .val (.long z20), .second] [(.long z13), (.long (z20 * lm))]))) (fun t k => XS.lload X2.here hx rfl (hb hby own_sc_d35) rfl k) ?_
  refine own_go (B := (T2.setTop (mkF m 38 #[.val (.long (1 : Int64)), .second, .val (.long dn), .second, .val (.long lm), .second, rv ac, .val (.long z13), .second, .val (.long z20), .second] [(.int (lcmpW (z20 * lm) z13))]))) (fun t k => XS.lcmp (x := (z20 * lm)) (y := z13) X2.here hx rfl (hb hby own_sc_d37) rfl k) ?_
  refine own_lif X2 hx (hb hby own_sc_d38) (pc' := 48) (pn := 41) (by decide) (by decide) rfl (fun (hc38 : (z20 * lm) = z13) => ?_) (fun (hc38 : ¬ (z20 * lm) = z13) => ?_)
  · refine own_go (B := (T2.setTop (mkF m 50 #[.val (.long (1 : Int64)), .second, .val (.long dn), .second, .val (.long lm), .second, rv ac, .val (.long z13), .second, .val (.long z20), .second] [(.long z20)]))) (fun t k => XS.lload X2.here hx rfl (hb hby own_sc_d48) rfl k) ?_
    exact own_retL X2 hx hlk Bd.returns (hb hby own_sc_d50) (own_b rfl) (own_b rfl) (Q := (own_sc_Q Z dn lm ac h0 n0)) ⟨_, rfl, N0, e2⟩
  · refine own_go (B := (T2.setTop (mkF m 43 #[.val (.long (1 : Int64)), .second, .val (.long dn), .second, .val (.long lm), .second, rv ac, .val (.long z13), .second, .val (.long z20), .second] [(.long z20)]))) (fun t k => XS.lload X2.here hx rfl (hb hby own_sc_d41) rfl k) ?_
    refine own_go (B := (T2.setTop (mkF m 44 #[.val (.long (1 : Int64)), .second, .val (.long dn), .second, .val (.long lm), .second, rv ac, .val (.long z13), .second, .val (.long z20), .second] [(.long (1 : Int64)), (.long z20)]))) (fun t k => XS.lconst X2.here hx rfl (hb hby own_sc_d43) k) ?_
    refine own_go (B := (T2.setTop (mkF m 45 #[.val (.long (1 : Int64)), .second, .val (.long dn), .second, .val (.long lm), .second, rv ac, .val (.long z13), .second, .val (.long z20), .second] [(.long (z20 + (1 : Int64)))]))) (fun t k => XS.ladd (x := z20) (y := (1 : Int64)) X2.here hx rfl (hb hby own_sc_d44) rfl k) ?_
    refine own_go (B := (T2.setTop (mkF m 50 #[.val (.long (1 : Int64)), .second, .val (.long dn), .second, .val (.long lm), .second, rv ac, .val (.long z13), .second, .val (.long z20), .second] [(.long (z20 + (1 : Int64)))]))) (fun t k => XS.goto X2.here hx rfl (pc0 := 45) (pc' := 50) rfl (hb hby own_sc_d45) (by decide) (by decide) k) ?_
    exact own_retL X2 hx hlk Bd.returns (hb hby own_sc_d50) (own_b rfl) (own_b rfl) (Q := (own_sc_Q Z dn lm ac h0 n0)) ⟨_, rfl, N0, e2⟩

theorem own_pn_d0 : decode prog_57_method_12_code 0 = .ok (.lconst 1, 1) := by decide +kernel
theorem own_pn_d1 : decode prog_57_method_12_code 1 = .ok (.aload_n 0, 1) := by decide +kernel
theorem own_pn_d2 : decode prog_57_method_12_code 2 = .ok (.getfield 23, 3) := by decide +kernel
theorem own_pn_d5 : decode prog_57_method_12_code 5 = .ok (.lload_n 1, 1) := by decide +kernel
theorem own_pn_d6 : decode prog_57_method_12_code 6 = .ok (.getstatic 39, 3) := by decide +kernel
theorem own_pn_d9 : decode prog_57_method_12_code 9 = .ok (.invokestatic 45, 3) := by decide +kernel
theorem own_pn_d12 : decode prog_57_method_12_code 12 = .ok (.lreturn, 1) := by decide +kernel
theorem own_pn_pn : plainName "com/example/sluicegate/sluicegate/rule/PacedValues" = true := by first | (simp [plainName, overriddenIn]; done) | decide +kernel
theorem own_pn_ef (m : MethodId) (th : Addr) (lm : Int64) : entryFrame m #[(.ref th), (.long lm)] 3 = mkF m 0 #[rv th, .val (.long lm), .second] [] := by first | (simp [entryFrame, mkF, argsToLocals, Value.category]; done) | rfl
def own_pn_Q (Z : State) (th : Addr) (lm : Int64) (dn : Int64) (ac : Addr) (h0 : Heap) (n0 : Nat) (v : Option Value) (h : Heap) (L : List Loc) : Prop := ∃ r, v = some (.long r) ∧ Fr n0 L ∧ h = h0
set_option maxRecDepth 65536 in
set_option maxHeartbeats 40000000 in
theorem own_pn (l : Launch) (Z : State) (a0 : Array Value) (hw : ∀ d ∈ tables_1, d.before a0 Z = true) (ws : List Jvm.Cond) (th : Addr) (lm : Int64) (dn : Int64) (ac : Addr) (h0 : Heap) (n0 : Nat) (Z0 : n0 ≤ h0.size) (H9000 : Fld Z h0 th "com/example/sluicegate/sluicegate/rule/PacedValues" "durationNanos" "J" (.long dn)) (H9001 : Sta Z h0 "java/math/RoundingMode" "CEILING" "Ljava/math/RoundingMode;" (.ref ac)) (hdn : ¬ dn = (0 : Int64)) (hlm : ¬ lm = (0 : Int64)) (hdv : ¬ ((9223372036854775807 : Int64) / dn) < (1 : Int64)) :
    MetFree l own_y21 (head1 (Jvm.Cond.code own_y21 prog_57_method_12_code 3 (some .long) :: ws) ({ frames := 1, cells := 0, slots := 0, locals := 22 } : Room)) (fun a U => a = #[(.ref th), (.long lm)] ∧ Z.Warmed39 U.vm ∧ U.heap = h0) (fun _ _ _ _ _ => True) (fun _ U o U' => ∃ v L, o = .returned v ∧ (own_pn_Q Z th lm dn ac h0 n0) v U'.heap L ∧ FrameEnd U o U' L ({ frames := 1, cells := 0, slots := 0, locals := 22 } : Room).cells ({ frames := 1, cells := 0, slots := 0, locals := 22 } : Room).slots) := by
  refine MetFree.of_bodySF (plainFor_of_name own_pn_pn) hisR ?_
  intro p e s m args below meth c s₁ Bd hml0 hP hK
  obtain ⟨rfl, hZ, hh⟩ := hP
  have hx := Bd.exec
  have hby := Bd.bytes
  have hml : c.maxLocals = 3 := hml0
  have hown : s.vm.findClass "com/example/sluicegate/sluicegate/rule/PacedValues" = some m.cls := findClass_of_methodNamed Bd.named
  have hnm := (name_of_methodNamed Bd.named Bd.method).1
  have hlk : meth.locks = false := Bd.notSynchronized
  have X0 : Stand p l e ({ frames := 1, cells := 0, slots := 0, locals := 22 } : Room) s m #[(.ref th), (.long lm)] below meth c s₁ [] 0 0 := Stand.of_body Bd
  have e0 : s₁.heap = h0 := by rw [← hh, Bd.state]; rfl
  have N0 := Fr.nil n0
  have w_87 := hw _ (List.mem_of_getElem? (l := tables_1) (i := 87) rfl)
  have w_207 := hw _ (List.mem_of_getElem? (l := tables_1) (i := 207) rfl)
  have w_262 := hw _ (List.mem_of_getElem? (l := tables_1) (i := 262) rfl)
  have w_264 := hw _ (List.mem_of_getElem? (l := tables_1) (i := 264) rfl)
  have w_265 := hw _ (List.mem_of_getElem? (l := tables_1) (i := 265) rfl)
  have w_266 := hw _ (List.mem_of_getElem? (l := tables_1) (i := 266) rfl)
  have w_267 := hw _ (List.mem_of_getElem? (l := tables_1) (i := 267) rfl)
  show own_G p.tables e below (fun o U' => ∃ v L, o = .returned v ∧ (own_pn_Q Z th lm dn ac h0 n0) v U'.heap L ∧ FrameEnd s o U' L ({ frames := 1, cells := 0, slots := 0, locals := 22 } : Room).cells ({ frames := 1, cells := 0, slots := 0, locals := 22 } : Room).slots) (s₁.setTop (entryFrame m #[(.ref th), (.long lm)] 3))
  refine own_go (B := s₁.setTop (mkF m 0 #[rv th, .val (.long lm), .second] [])) (fun t k => castTop (own_pn_ef m th lm) k) ?_
  refine own_go (B := (s₁.setTop (mkF m 1 #[rv th, .val (.long lm), .second] [(.long (1 : Int64))]))) (fun t k => XS.lconst X0.here hx rfl (hb hby own_pn_d0) k) ?_
  refine own_go (B := (s₁.setTop (mkF m 2 #[rv th, .val (.long lm), .second] [(.ref th), (.long (1 : Int64))]))) (fun t k => XS.aloadN X0.here hx rfl (hb hby own_pn_d1) rfl rfl k) ?_
  obtain ⟨T1, X1, e1, st1⟩ := getF X0 hx hZ hown (host := "") (Or.inl w_207) Via.refl e0 H9000 (g := (mkF m 2 #[rv th, .val (.long lm), .second] [(.ref th), (.long (1 : Int64))])) rfl rfl (hb hby own_pn_d2)
  refine own_go (B := (T1.setTop (mkF m 5 #[rv th, .val (.long lm), .second] [(.long dn), (.long (1 : Int64))]))) st1 ?_
  refine own_go (B := (T1.setTop (mkF m 6 #[rv th, .val (.long lm), .second] [(.long lm), (.long dn), (.long (1 : Int64))]))) (fun t k => XS.lloadN X1.here hx rfl (hb hby own_pn_d5) rfl k) ?_
  obtain ⟨T2, X2, e2, st2⟩ := getS X1 hx hZ hown (host := "") w_262 Via.refl e1 H9001 (g := (mkF m 6 #[rv th, .val (.long lm), .second] [(.long lm), (.long dn), (.long (1 : Int64))])) rfl (hb hby own_pn_d6)
  refine own_go (B := (T2.setTop (mkF m 9 #[rv th, .val (.long lm), .second] [(.ref ac), (.long lm), (.long dn), (.long (1 : Int64))]))) st2 ?_
  obtain ⟨_, _, ⟨T3, L3, k3, n3⟩, -, X3, ⟨Lc3, hQ3, l3, yy3, zz3⟩, st3⟩ := own_callUp X2 hx (owner := "com/example/sluicegate/sluicegate/rule/HotValues") (x := own_y18) hown (mvT hZ w_264) (mvT hZ w_265) (mvT hZ w_266) (mvT hZ w_87) (mvT hZ w_267) (by decide) (backOf (W := 0) (own_sc l Z a0 hw [] dn lm ac h0 n0 Z0 H9001 hdn hlm hdv) hZ w_267 w_87 (by decide) (by decide)) (g := (mkF m 9 #[rv th, .val (.long lm), .second] [(.ref ac), (.long lm), (.long dn), (.long (1 : Int64))])) rfl (by rw [hml]; rfl) (argsL := [(.long (1 : Int64)), (.long dn), (.long lm), (.ref ac)]) (rest := []) (lenOf own_pd11 rfl) rfl (by show 2 * 0 + _ ≤ _; exact own_b rfl) (hb hby own_pn_d9) (fun _ _ => ⟨rfl, e2, (own_b rfl : 0 + 0 ≤ _), (own_b rfl : 0 + 0 ≤ _)⟩)
  dsimp only [Pt.U, Pt.locs, Pt.cells, Pt.slots] at X3 l3 yy3 zz3 st3 hQ3
  obtain ⟨r3, rfl, Nq3, eq3⟩ := hQ3
  obtain ⟨L3, X3, N3⟩ := own_absC (K := 0) (K' := 0) X3 l3 yy3 zz3 N0 Nq3
  have e3 : T3.heap = h0 := eq3
  refine own_tr (B := (T3.setTop (mkF m 12 #[rv th, .val (.long lm), .second] [(.long r3)]))) st3 ?_
  exact own_retL X3 hx hlk Bd.returns (hb hby own_pn_d12) (own_b rfl) (own_b rfl) (Q := (own_pn_Q Z th lm dn ac h0 n0)) ⟨_, rfl, N3, e3⟩

theorem own_cn_d0 : decode prog_57_method_11_code 0 = .ok (.aload_n 1, 1) := by decide +kernel
theorem own_cn_d1 : decode prog_57_method_11_code 1 = .ok (.invokevirtual 54, 3) := by decide +kernel
theorem own_cn_d4 : decode prog_57_method_11_code 4 = .ok (.aload_n 1, 1) := by decide +kernel
theorem own_cn_d5 : decode prog_57_method_11_code 5 = .ok (.invokevirtual 100, 3) := by decide +kernel
theorem own_cn_d8 : decode prog_57_method_11_code 8 = .ok (.aload_n 0, 1) := by decide +kernel
theorem own_cn_d9 : decode prog_57_method_11_code 9 = .ok (.lload_n 2, 1) := by decide +kernel
theorem own_cn_d10 : decode prog_57_method_11_code 10 = .ok (.invokevirtual 87, 3) := by decide +kernel
theorem own_cn_d13 : decode prog_57_method_11_code 13 = .ok (.invokestatic 103, 3) := by decide +kernel
theorem own_cn_d16 : decode prog_57_method_11_code 16 = .ok (.ladd, 1) := by decide +kernel
theorem own_cn_d17 : decode prog_57_method_11_code 17 = .ok (.lreturn, 1) := by decide +kernel
theorem own_cn_pn : plainName "com/example/sluicegate/sluicegate/rule/PacedValues" = true := by first | (simp [plainName, overriddenIn]; done) | decide +kernel
theorem own_cn_ef (m : MethodId) (th : Addr) (sl : Addr) (lm : Int64) : entryFrame m #[(.ref th), (.ref sl), (.long lm)] 4 = mkF m 0 #[rv th, rv sl, .val (.long lm), .second] [] := by first | (simp [entryFrame, mkF, argsToLocals, Value.category]; done) | rfl
def own_cn_Q (Z : State) (th : Addr) (sl : Addr) (lm : Int64) (dn fr wt : Int64) (ac : Addr) (h0 : Heap) (n0 : Nat) (v : Option Value) (h : Heap) (L : List Loc) : Prop := ∃ r, v = some (.long r) ∧ Fr n0 L ∧ h = h0
set_option maxRecDepth 65536 in
set_option maxHeartbeats 40000000 in
theorem own_cn (l : Launch) (Z : State) (a0 : Array Value) (hw : ∀ d ∈ tables_1, d.before a0 Z = true) (ws : List Jvm.Cond) (th : Addr) (sl : Addr) (lm : Int64) (dn fr wt : Int64) (ac : Addr) (h0 : Heap) (n0 : Nat) (Z0 : n0 ≤ h0.size) (H9000 : Exa Z h0 th "com/example/sluicegate/sluicegate/rule/PacedValues") (H9001 : Fld Z h0 th "com/example/sluicegate/sluicegate/rule/PacedValues" "durationNanos" "J" (.long dn)) (H9002 : Exa Z h0 sl "com/example/sluicegate/sluicegate/rule/Slot") (H9003 : Fld Z h0 sl "com/example/sluicegate/sluicegate/rule/Slot" "fromNanos" "J" (.long fr)) (H9004 : Fld Z h0 sl "com/example/sluicegate/sluicegate/rule/Slot" "waitNanos" "J" (.long wt)) (H9005 : Sta Z h0 "java/math/RoundingMode" "CEILING" "Ljava/math/RoundingMode;" (.ref ac)) (hdn : ¬ dn = (0 : Int64)) (hlm : ¬ lm = (0 : Int64)) (hdv : ¬ ((9223372036854775807 : Int64) / dn) < (1 : Int64)) :
    MetFree l own_y24 (head1 (Jvm.Cond.code own_y24 prog_57_method_11_code 4 (some .long) :: ws) ({ frames := 2, cells := 0, slots := 0, locals := 40 } : Room)) (fun a U => a = #[(.ref th), (.ref sl), (.long lm)] ∧ Z.Warmed39 U.vm ∧ U.heap = h0) (fun _ _ _ _ _ => True) (fun _ U o U' => ∃ v L, o = .returned v ∧ (own_cn_Q Z th sl lm dn fr wt ac h0 n0) v U'.heap L ∧ FrameEnd U o U' L ({ frames := 2, cells := 0, slots := 0, locals := 40 } : Room).cells ({ frames := 2, cells := 0, slots := 0, locals := 40 } : Room).slots) := by
  refine MetFree.of_bodySF (plainFor_of_name own_cn_pn) hisR ?_
  intro p e s m args below meth c s₁ Bd hml0 hP hK
  obtain ⟨rfl, hZ, hh⟩ := hP
  have hx := Bd.exec
  have hby := Bd.bytes
  have hml : c.maxLocals = 4 := hml0
  have hown : s.vm.findClass "com/example/sluicegate/sluicegate/rule/PacedValues" = some m.cls := findClass_of_methodNamed Bd.named
  have hnm := (name_of_methodNamed Bd.named Bd.method).1
  have hlk : meth.locks = false := Bd.notSynchronized
  have X0 : Stand p l e ({ frames := 2, cells := 0, slots := 0, locals := 40 } : Room) s m #[(.ref th), (.ref sl), (.long lm)] below meth c s₁ [] 0 0 := Stand.of_body Bd
  have e0 : s₁.heap = h0 := by rw [← hh, Bd.state]; rfl
  have N0 := Fr.nil n0
  have w_3 := hw _ (List.mem_of_getElem? (l := tables_1) (i := 3) rfl)
  have w_79 := hw _ (List.mem_of_getElem? (l := tables_1) (i := 79) rfl)
  have w_80 := hw _ (List.mem_of_getElem? (l := tables_1) (i := 80) rfl)
  have w_219 := hw _ (List.mem_of_getElem? (l := tables_1) (i := 219) rfl)
  have w_248 := hw _ (List.mem_of_getElem? (l := tables_1) (i := 248) rfl)
  have w_249 := hw _ (List.mem_of_getElem? (l := tables_1) (i := 249) rfl)
  have w_250 := hw _ (List.mem_of_getElem? (l := tables_1) (i := 250) rfl)
  have w_251 := hw _ (List.mem_of_getElem? (l := tables_1) (i := 251) rfl)
  have w_252 := hw _ (List.mem_of_getElem? (l := tables_1) (i := 252) rfl)
  have w_253 := hw _ (List.mem_of_getElem? (l := tables_1) (i := 253) rfl)
  have w_254 := hw _ (List.mem_of_getElem? (l := tables_1) (i := 254) rfl)
  have w_255 := hw _ (List.mem_of_getElem? (l := tables_1) (i := 255) rfl)
  have w_256 := hw _ (List.mem_of_getElem? (l := tables_1) (i := 256) rfl)
  have w_257 := hw _ (List.mem_of_getElem? (l := tables_1) (i := 257) rfl)
  have w_258 := hw _ (List.mem_of_getElem? (l := tables_1) (i := 258) rfl)
  have w_259 := hw _ (List.mem_of_getElem? (l := tables_1) (i := 259) rfl)
  have w_260 := hw _ (List.mem_of_getElem? (l := tables_1) (i := 260) rfl)
  have w_261 := hw _ (List.mem_of_getElem? (l := tables_1) (i := 261) rfl)
  have w_270 := hw _ (List.mem_of_getElem? (l := tables_1) (i := 270) rfl)
  have w_271 := hw _ (List.mem_of_getElem? (l := tables_1) (i := 271) rfl)
  have w_272 := hw _ (List.mem_of_getElem? (l := tables_1) (i := 272) rfl)
  show own_G p.tables e below (fun o U' => ∃ v L, o = .returned v ∧ (own_cn_Q Z th sl lm dn fr wt ac h0 n0) v U'.heap L ∧ FrameEnd s o U' L ({ frames := 2, cells := 0, slots := 0, locals := 40 } : Room).cells ({ frames := 2, cells := 0, slots := 0, locals := 40 } : Room).slots) (s₁.setTop (entryFrame m #[(.ref th), (.ref sl), (.long lm)] 4))
  refine own_go (B := s₁.setTop (mkF m 0 #[rv th, rv sl, .val (.long lm), .second] [])) (fun t k => castTop (own_cn_ef m th sl lm) k) ?_
  refine own_go (B := (s₁.setTop (mkF m 1 #[rv th, rv sl, .val (.long lm), .second] [(.ref sl)]))) (fun t k => XS.aloadN X0.here hx rfl (hb hby own_cn_d0) rfl rfl k) ?_
  obtain ⟨cq1, kq1, qa1, qb1, qc1⟩ := isOf hZ e0 H9002
  obtain ⟨_, _, ⟨T1, L1, k1, n1⟩, -, X1, ⟨Lc1, hQ1, l1, yy1, zz1⟩, st1⟩ := X0.virtualBack hx (y := own_y19) (z := own_y19) hown (mvT hZ w_248) (mvT hZ w_249) (notFace_of_selects (args := #[]) (mvT hZ w_251)) (mvT hZ w_251) (mvT hZ w_250) (by decide) (backOf (W := 0) (own_gf l Z a0 hw [] sl fr h0 n0 Z0 H9003) hZ w_252 w_219 (by decide) (by decide)) qa1 qc1 (g := (mkF m 1 #[rv th, rv sl, .val (.long lm), .second] [(.ref sl)])) rfl (by rw [hml]; rfl) (Steps.refl _) (argsL := []) (rest := []) (lenOf own_pd9 rfl) rfl (by show 2 * 0 + _ ≤ _; exact own_b rfl) (hb hby own_cn_d1) (fun _ _ => ⟨rfl, e0, (own_b rfl : 0 + 0 ≤ _), (own_b rfl : 0 + 0 ≤ _)⟩)
  dsimp only [Pt.U, Pt.locs, Pt.cells, Pt.slots] at X1 l1 yy1 zz1 st1 hQ1
  obtain ⟨rfl, Nq1, eq1⟩ := hQ1
  obtain ⟨L1, X1, N1⟩ := own_absC (K := 0) (K' := 0) X1 l1 yy1 zz1 N0 Nq1
  have e1 : T1.heap = h0 := eq1
  refine own_tr (B := (T1.setTop (mkF m 4 #[rv th, rv sl, .val (.long lm), .second] [(.long fr)]))) st1 ?_
  refine own_go (B := (T1.setTop (mkF m 5 #[rv th, rv sl, .val (.long lm), .second] [(.ref sl), (.long fr)]))) (fun t k => XS.aloadN X1.here hx rfl (hb hby own_cn_d4) rfl rfl k) ?_
  obtain ⟨cq2, kq2, qa2, qb2, qc2⟩ := isOf hZ e1 H9002
  obtain ⟨_, _, ⟨T2, L2, k2, n2⟩, -, X2, ⟨Lc2, hQ2, l2, yy2, zz2⟩, st2⟩ := X1.virtualBack hx (y := own_y20) (z := own_y20) hown (mvT hZ w_253) (mvT hZ w_254) (notFace_of_selects (args := #[]) (mvT hZ w_256)) (mvT hZ w_256) (mvT hZ w_255) (by decide) (backOf (W := 2) (own_gw l Z a0 hw [] sl wt h0 n0 Z0 H9004) hZ w_257 w_219 (by decide) (by decide)) qa2 qc2 (g := (mkF m 5 #[rv th, rv sl, .val (.long lm), .second] [(.ref sl), (.long fr)])) rfl (by rw [hml]; rfl) (Steps.refl _) (argsL := []) (rest := [(.long fr)]) (lenOf own_pd9 rfl) rfl (by show 2 * 0 + _ ≤ _; exact own_b rfl) (hb hby own_cn_d5) (fun _ _ => ⟨rfl, e1, (own_b rfl : 0 + 0 ≤ _), (own_b rfl : 0 + 0 ≤ _)⟩)
  dsimp only [Pt.U, Pt.locs, Pt.cells, Pt.slots] at X2 l2 yy2 zz2 st2 hQ2
  obtain ⟨rfl, Nq2, eq2⟩ := hQ2
  obtain ⟨L2, X2, N2⟩ := own_absC (K := 0) (K' := 0) X2 l2 yy2 zz2 N1 Nq2
  have e2 : T2.heap = h0 := eq2
  refine own_tr (B := (T2.setTop (mkF m 8 #[rv th, rv sl, .val (.long lm), .second] [(.long wt), (.long fr)]))) st2 ?_
  refine own_go (B := (T2.setTop (mkF m 9 #[rv th, rv sl, .val (.long lm), .second] [(.ref th), (.long wt), (.long fr)]))) (fun t k => XS.aloadN X2.here hx rfl (hb hby own_cn_d8) rfl rfl k) ?_
  refine own_go (B := (T2.setTop (mkF m 10 #[rv th, rv sl, .val (.long lm), .second] [(.long lm), (.ref th), (.long wt), (.long fr)]))) (fun t k => XS.lloadN X2.here hx rfl (hb hby own_cn_d9) rfl k) ?_
  obtain ⟨pc3, pq3, pr3⟩ := Exa.cell H9000
  obtain ⟨_, _, ⟨T3, L3, k3, n3⟩, -, X3, ⟨Lc3, hQ3, l3, yy3, zz3⟩, st3⟩ := X2.privateBack hx (y := own_y21) hown (mvT hZ w_258) (mvT hZ w_259) (own_selp hZ w_79 w_260 w_259 (by decide)) (Cond.privateMethod_at (mvP hZ w_260 (args := #[]))) (mvT hZ w_261) (by decide) (backOf (W := 4) (own_pn l Z a0 hw [] th lm dn ac h0 n0 Z0 H9001 H9005 hdn hlm hdv) hZ w_261 w_80 (by decide) (by decide)) (g := (mkF m 10 #[rv th, rv sl, .val (.long lm), .second] [(.long lm), (.ref th), (.long wt), (.long fr)])) rfl (by rw [hml]; rfl) (Steps.refl _) (a := th) (by rw [e2]; exact pq3) pr3 (argsL := [(.long lm)]) (rest := [(.long wt), (.long fr)]) (lenOf own_pd7 rfl) rfl (by show 2 * 0 + _ ≤ _; exact own_b rfl) (hb hby own_cn_d10) (fun _ _ => ⟨rfl, e2, (own_b rfl : 0 + 0 ≤ _), (own_b rfl : 0 + 0 ≤ _)⟩)
  dsimp only [Pt.U, Pt.locs, Pt.cells, Pt.slots] at X3 l3 yy3 zz3 st3 hQ3
  obtain ⟨r3, rfl, Nq3, eq3⟩ := hQ3
  obtain ⟨L3, X3, N3⟩ := own_absC (K := 0) (K' := 0) X3 l3 yy3 zz3 N2 Nq3
  have e3 : T3.heap = h0 := eq3
  refine own_tr (B := (T3.setTop (mkF m 13 #[rv th, rv sl, .val (.long lm), .second] [(.long r3), (.long wt), (.long fr)]))) st3 ?_
  obtain ⟨_, _, ⟨T4, L4, k4, n4⟩, -, X4, ⟨Lc4, hQ4, l4, yy4, zz4⟩, st4⟩ := Jvm.LawKit.callS X3 hx (y := own_y22) hown (mvT hZ w_270) (mvT hZ w_271) (mvT hZ w_3) (mvT hZ w_272) (by decide) (backOf (W := 2) (own_mminl l Z a0 hw [] wt r3 h0 n0) hZ w_272 w_3 (by decide) (by decide)) (g := (mkF m 13 #[rv th, rv sl, .val (.long lm), .second] [(.long r3), (.long wt), (.long fr)])) rfl (by rw [hml]; rfl) (argsL := [(.long wt), (.long r3)]) (rest := [(.long fr)]) (lenOf own_pd10 rfl) rfl (by show 2 * 0 + _ ≤ _; exact own_b rfl) (hb hby own_cn_d13) (fun _ _ => ⟨rfl, e3, (own_b rfl : 0 + 0 ≤ _), (own_b rfl : 0 + 0 ≤ _)⟩)
  dsimp only [Pt.U, Pt.locs, Pt.cells, Pt.slots] at X4 l4 yy4 zz4 st4 hQ4
  obtain ⟨r4, rfl, Nq4, eq4⟩ := hQ4
  obtain ⟨L4, X4, N4⟩ := own_absC (K := 0) (K' := 0) X4 l4 yy4 zz4 N3 Nq4
  have e4 : T4.heap = h0 := eq4
  refine own_go (B := (T4.setTop (mkF m 16 #[rv th, rv sl, .val (.long lm), .second] [(.long r4), (.long fr)]))) st4 ?_
  refine own_go (B := (T4.setTop (mkF m 17 #[rv th, rv sl, .val (.long lm), .second] [(.long (fr + r4))]))) (fun t k => XS.ladd (x := fr) (y := r4) X4.here hx rfl (hb hby own_cn_d16) rfl k) ?_
  exact own_retL X4 hx hlk Bd.returns (hb hby own_cn_d17) (own_b rfl) (own_b rfl) (Q := (own_cn_Q Z th sl lm dn fr wt ac h0 n0)) ⟨_, rfl, N4, e4⟩

theorem own_ke_d0 : decode prog_47_method_1_code 0 = .ok (.aload_n 0, 1) := by decide +kernel
theorem own_ke_d1 : decode prog_47_method_1_code 1 = .ok (.invokespecial 3, 3) := by decide +kernel
theorem own_ke_d4 : decode prog_47_method_1_code 4 = .ok (.aload_n 0, 1) := by decide +kernel
theorem own_ke_d5 : decode prog_47_method_1_code 5 = .ok (.iconst (-1), 1) := by decide +kernel
theorem own_ke_d6 : decode prog_47_method_1_code 6 = .ok (.putfield 9, 3) := by decide +kernel
theorem own_ke_d9 : decode prog_47_method_1_code 9 = .ok (.aload_n 0, 1) := by decide +kernel
theorem own_ke_d10 : decode prog_47_method_1_code 10 = .ok (.aload_n 1, 1) := by decide +kernel
theorem own_ke_d11 : decode prog_47_method_1_code 11 = .ok (.putfield 15, 3) := by decide +kernel
theorem own_ke_d14 : decode prog_47_method_1_code 14 = .ok (.aload_n 0, 1) := by decide +kernel
theorem own_ke_d15 : decode prog_47_method_1_code 15 = .ok (.aload_n 2, 1) := by decide +kernel
theorem own_ke_d16 : decode prog_47_method_1_code 16 = .ok (.putfield 19, 3) := by decide +kernel
theorem own_ke_d19 : decode prog_47_method_1_code 19 = .ok (.aload_n 0, 1) := by decide +kernel
theorem own_ke_d20 : decode prog_47_method_1_code 20 = .ok (.lload_n 3, 1) := by decide +kernel
theorem own_ke_d21 : decode prog_47_method_1_code 21 = .ok (.putfield 23, 3) := by decide +kernel
theorem own_ke_d24 : decode prog_47_method_1_code 24 = .ok (.aload_n 0, 1) := by decide +kernel
theorem own_ke_d25 : decode prog_47_method_1_code 25 = .ok (.lload 5, 2) := by decide +kernel
theorem own_ke_d27 : decode prog_47_method_1_code 27 = .ok (.putfield 27, 3) := by decide +kernel
theorem own_ke_d30 : decode prog_47_method_1_code 30 = .ok (.aload_n 0, 1) := by decide +kernel
theorem own_ke_d31 : decode prog_47_method_1_code 31 = .ok (.lload 7, 2) := by decide +kernel
theorem own_ke_d33 : decode prog_47_method_1_code 33 = .ok (.putfield 30, 3) := by decide +kernel
theorem own_ke_d36 : decode prog_47_method_1_code 36 = .ok (.return_, 1) := by decide +kernel
theorem own_ke_pn : plainName "com/example/sluicegate/sluicegate/rule/HotValues$Kept" = true := by first | (simp [plainName, overriddenIn]; done) | decide +kernel
theorem own_ke_ef (m : MethodId) (th : Addr) (ja : Int64) (jb : Int64) (jc : Int64) : entryFrame m #[(.ref th), .null, .null, (.long ja), (.long jb), (.long jc)] 9 = mkF m 0 #[rv th, .val .null, .val .null, .val (.long ja), .second, .val (.long jb), .second, .val (.long jc), .second] [] := by first | (simp [entryFrame, mkF, argsToLocals, Value.category]; done) | rfl
def own_ke_Q (Z : State) (th : Addr) (ja : Int64) (jb : Int64) (jc : Int64) (h0 : Heap) (n0 : Nat) (v : Option Value) (h : Heap) (L : List Loc) : Prop := v = none ∧ Fr n0 L ∧ Keep h0 h [th] ∧ Exa Z h th "com/example/sluicegate/sluicegate/rule/PacedValues$Latest" ∧ Fld Z h th "com/example/sluicegate/sluicegate/rule/PacedValues$Latest" "slotNanos" "J" (.long (0 : Int64))
set_option maxRecDepth 65536 in
set_option maxHeartbeats 40000000 in
theorem own_ke (l : Launch) (Z : State) (a0 : Array Value) (hw : ∀ d ∈ tables_1, d.before a0 Z = true) (ws : List Jvm.Cond) (th : Addr) (ja : Int64) (jb : Int64) (jc : Int64) (h0 : Heap) (n0 : Nat) (Z0 : n0 ≤ h0.size) (H9000 : Exa Z h0 th "com/example/sluicegate/sluicegate/rule/PacedValues$Latest") (H9001 : n0 ≤ th) (H9002 : Fld Z h0 th "com/example/sluicegate/sluicegate/rule/HotValues$Kept" "sparedPlace" "S" (.int (0 : Int32))) (H9003 : Fld Z h0 th "com/example/sluicegate/sluicegate/rule/HotValues$Kept" "value" "Ljava/lang/Object;" .null) (H9004 : Fld Z h0 th "com/example/sluicegate/sluicegate/rule/HotValues$Kept" "shard" "Lcom/example/sluicegate/sluicegate/rule/ValueShards$Shard;" .null) (H9005 : Fld Z h0 th "com/example/sluicegate/sluicegate/rule/HotValues$Kept" "filledMillis" "J" (.long (0 : Int64))) (H9006 : Fld Z h0 th "com/example/sluicegate/sluicegate/rule/HotValues$Kept" "latestCall" "J" (.long (0 : Int64))) (H9007 : Fld Z h0 th "com/example/sluicegate/sluicegate/rule/HotValues$Kept" "seen" "J" (.long (0 : Int64))) (H9008 : Fld Z h0 th "com/example/sluicegate/sluicegate/rule/PacedValues$Latest" "slotNanos" "J" (.long (0 : Int64))) :
    MetFree l own_y23 (head1 (Jvm.Cond.code own_y23 prog_47_method_1_code 9 none :: ws) ({ frames := 1, cells := 0, slots := 0, locals := 12 } : Room)) (fun a U => a = #[(.ref th), .null, .null, (.long ja), (.long jb), (.long jc)] ∧ Z.Warmed39 U.vm ∧ U.heap = h0) (fun _ _ _ _ _ => True) (fun _ U o U' => ∃ v L, o = .returned v ∧ (own_ke_Q Z th ja jb jc h0 n0) v U'.heap L ∧ FrameEnd U o U' L ({ frames := 1, cells := 0, slots := 0, locals := 12 } : Room).cells ({ frames := 1, cells := 0, slots := 0, locals := 12 } : Room).slots) := by
  refine MetFree.of_bodySF (plainFor_of_name own_ke_pn) hisR ?_
  intro p e s m args below meth c s₁ Bd hml0 hP hK
  obtain ⟨rfl, hZ, hh⟩ := hP
  have hx := Bd.exec
  have hby := Bd.bytes
  have hml : c.maxLocals = 9 := hml0
  have hown : s.vm.findClass "com/example/sluicegate/sluicegate/rule/HotValues$Kept" = some m.cls := findClass_of_methodNamed Bd.named
  have hnm := (name_of_methodNamed Bd.named Bd.method).1
  have hlk : meth.locks = false := Bd.notSynchronized
  have X0 : Stand p l e ({ frames := 1, cells := 0, slots := 0, locals := 12 } : Room) s m #[(.ref th), .null, .null, (.long ja), (.long jb), (.long jc)] below meth c s₁ [] 0 0 := Stand.of_body Bd
  have e0 : s₁.heap = h0 := by rw [← hh, Bd.state]; rfl
  have N0 := Fr.nil n0
  have w_38 := hw _ (List.mem_of_getElem? (l := tables_1) (i := 38) rfl)
  have w_39 := hw _ (List.mem_of_getElem? (l := tables_1) (i := 39) rfl)
  have w_242 := hw _ (List.mem_of_getElem? (l := tables_1) (i := 242) rfl)
  have w_286 := hw _ (List.mem_of_getElem? (l := tables_1) (i := 286) rfl)
  have w_287 := hw _ (List.mem_of_getElem? (l := tables_1) (i := 287) rfl)
  have w_288 := hw _ (List.mem_of_getElem? (l := tables_1) (i := 288) rfl)
  have w_289 := hw _ (List.mem_of_getElem? (l := tables_1) (i := 289) rfl)
  have w_290 := hw _ (List.mem_of_getElem? (l := tables_1) (i := 290) rfl)
  have w_291 := hw _ (List.mem_of_getElem? (l := tables_1) (i := 291) rfl)
  have w_292 := hw _ (List.mem_of_getElem? (l := tables_1) (i := 292) rfl)
  have w_293 := hw _ (List.mem_of_getElem? (l := tables_1) (i := 293) rfl)
  have w_294 := hw _ (List.mem_of_getElem? (l := tables_1) (i := 294) rfl)
  have w_295 := hw _ (List.mem_of_getElem? (l := tables_1) (i := 295) rfl)
  have w_296 := hw _ (List.mem_of_getElem? (l := tables_1) (i := 296) rfl)
  have w_297 := hw _ (List.mem_of_getElem? (l := tables_1) (i := 297) rfl)
  have w_298 := hw _ (List.mem_of_getElem? (l := tables_1) (i := 298) rfl)
  have w_300 := hw _ (List.mem_of_getElem? (l := tables_1) (i := 300) rfl)
  show own_G p.tables e below (fun o U' => ∃ v L, o = .returned v ∧ (own_ke_Q Z th ja jb jc h0 n0) v U'.heap L ∧ FrameEnd s o U' L ({ frames := 1, cells := 0, slots := 0, locals := 12 } : Room).cells ({ frames := 1, cells := 0, slots := 0, locals := 12 } : Room).slots) (s₁.setTop (entryFrame m #[(.ref th), .null, .null, (.long ja), (.long jb), (.long jc)] 9))
  refine own_go (B := s₁.setTop (mkF m 0 #[rv th, .val .null, .val .null, .val (.long ja), .second, .val (.long jb), .second, .val (.long jc), .second] [])) (fun t k => castTop (own_ke_ef m th ja jb jc) k) ?_
  have K0 := Keep.refl h0 [th]
  refine own_go (B := (s₁.setTop (mkF m 1 #[rv th, .val .null, .val .null, .val (.long ja), .second, .val (.long jb), .second, .val (.long jc), .second] [(.ref th)]))) (fun t k => XS.aloadN X0.here hx rfl (hb hby own_ke_d0) rfl rfl k) ?_
  obtain ⟨T1, X1, e1, st1⟩ := initO X0 hx hZ hown w_286 w_38 w_39 e0 (g := (mkF m 1 #[rv th, .val .null, .val .null, .val (.long ja), .second, .val (.long jb), .second, .val (.long jc), .second] [(.ref th)])) rfl (by rw [hml]; rfl) rfl (hb hby own_ke_d1) (by decide) (W := 0) (by show 2 * 0 + _ ≤ _; exact own_b rfl) (by decide)
  refine own_go (B := (T1.setTop (mkF m 4 #[rv th, .val .null, .val .null, .val (.long ja), .second, .val (.long jb), .second, .val (.long jc), .second] []))) st1 ?_
  refine own_go (B := (T1.setTop (mkF m 5 #[rv th, .val .null, .val .null, .val (.long ja), .second, .val (.long jb), .second, .val (.long jc), .second] [(.ref th)]))) (fun t k => XS.aloadN X1.here hx rfl (hb hby own_ke_d4) rfl rfl k) ?_
  refine own_go (B := (T1.setTop (mkF m 6 #[rv th, .val .null, .val .null, .val (.long ja), .second, .val (.long jb), .second, .val (.long jc), .second] [(.int (-1 : Int32)), (.ref th)]))) (fun t k => own_iconst (v := (-1 : Int32)) X1.here hx rfl (hb hby own_ke_d5) (by decide) k) ?_
  obtain ⟨T2, h2, X2, e2, W2, st2⟩ := putF X1 hx hZ hown (host := "") (Or.inl w_287) Via.refl e1 H9002 H9000 (Or.inl w_288) w_242 (ty := .short) (by decide) rfl rfl (g := (mkF m 6 #[rv th, .val .null, .val .null, .val (.long ja), .second, .val (.long jb), .second, .val (.long jc), .second] [(.int (-1 : Int32)), (.ref th)])) rfl rfl (hb hby own_ke_d6)
  refine own_go (B := (T2.setTop (mkF m 9 #[rv th, .val .null, .val .null, .val (.long ja), .second, .val (.long jb), .second, .val (.long jc), .second] []))) st2 ?_
  obtain ⟨L2, X2, N2⟩ := own_abs X2 (Fr.snoc X2 N0 H9001)
  have F3 : n0 ≤ h2.size := by rw [W2.size]; exact Z0
  have F4 := Keep.wr K0 W2 (Or.inl (List.mem_of_getElem? (i := 0) rfl))
  have F5 := Exa.wr W2 H9000
  have F6 := Fld.same W2 H9002
  have F7 := Fld.other W2 H9003 (Or.inr (slot_ne (t := (.object "java/lang/Object")) (t' := .short) (Or.inr w_290) (Or.inl w_288) (by decide) (by decide) (by decide)))
  have F8 := Fld.other W2 H9004 (Or.inr (slot_ne (t := (.object "com/example/sluicegate/sluicegate/rule/ValueShards$Shard")) (t' := .short) (Or.inr w_292) (Or.inl w_288) (by decide) (by decide) (by decide)))
  have F9 := Fld.other W2 H9005 (Or.inr (slot_ne (t := .long) (t' := .short) (Or.inl w_294) (Or.inl w_288) (by decide) (by decide) (by decide)))
  have F10 := Fld.other W2 H9006 (Or.inr (slot_ne (t := .long) (t' := .short) (Or.inl w_296) (Or.inl w_288) (by decide) (by decide) (by decide)))
  have F11 := Fld.other W2 H9007 (Or.inr (slot_ne (t := .long) (t' := .short) (Or.inr w_298) (Or.inl w_288) (by decide) (by decide) (by decide)))
  have F12 := Fld.other W2 H9008 (Or.inr (slot_ne (t := .long) (t' := .short) (Or.inl w_300) (Or.inl w_288) (by decide) (by decide) (by decide)))
  refine own_go (B := (T2.setTop (mkF m 10 #[rv th, .val .null, .val .null, .val (.long ja), .second, .val (.long jb), .second, .val (.long jc), .second] [(.ref th)]))) (fun t k => XS.aloadN X2.here hx rfl (hb hby own_ke_d9) rfl rfl k) ?_
  refine own_go (B := (T2.setTop (mkF m 11 #[rv th, .val .null, .val .null, .val (.long ja), .second, .val (.long jb), .second, .val (.long jc), .second] [.null, (.ref th)]))) (fun t k => XS.aloadN X2.here hx rfl (hb hby own_ke_d10) rfl rfl k) ?_
  obtain ⟨T13, h13, X13, e13, W13, st13⟩ := putF X2 hx hZ hown (host := "") (Or.inl w_289) Via.refl e2 F7 F5 (Or.inr ⟨w_290, rfl, hnm⟩) w_242 (ty := (.object "java/lang/Object")) (by decide) rfl rfl (g := (mkF m 11 #[rv th, .val .null, .val .null, .val (.long ja), .second, .val (.long jb), .second, .val (.long jc), .second] [.null, (.ref th)])) rfl rfl (hb hby own_ke_d11)
  refine own_go (B := (T13.setTop (mkF m 14 #[rv th, .val .null, .val .null, .val (.long ja), .second, .val (.long jb), .second, .val (.long jc), .second] []))) st13 ?_
  obtain ⟨L13, X13, N13⟩ := own_abs X13 (Fr.snoc X13 N2 H9001)
  have F14 : n0 ≤ h13.size := by rw [W13.size]; exact F3
  have F15 := Keep.wr F4 W13 (Or.inl (List.mem_of_getElem? (i := 0) rfl))
  have F16 := Exa.wr W13 F5
  have F17 := Fld.other W13 F6 (Or.inr (slot_ne (t := .short) (t' := (.object "java/lang/Object")) (Or.inl w_288) (Or.inr w_290) (by decide) (by decide) (by decide)))
  have F18 := Fld.same W13 F7
  have F19 := Fld.other W13 F8 (Or.inr (slot_ne (t := (.object "com/example/sluicegate/sluicegate/rule/ValueShards$Shard")) (t' := (.object "java/lang/Object")) (Or.inr w_292) (Or.inr w_290) (by decide) (by decide) (by decide)))
  have F20 := Fld.other W13 F9 (Or.inr (slot_ne (t := .long) (t' := (.object "java/lang/Object")) (Or.inl w_294) (Or.inr w_290) (by decide) (by decide) (by decide)))
  have F21 := Fld.other W13 F10 (Or.inr (slot_ne (t := .long) (t' := (.object "java/lang/Object")) (Or.inl w_296) (Or.inr w_290) (by decide) (by decide) (by decide)))
  have F22 := Fld.other W13 F11 (Or.inr (slot_ne (t := .long) (t' := (.object "java/lang/Object")) (Or.inr w_298) (Or.inr w_290) (by decide) (by decide) (by decide)))
  have F23 := Fld.other W13 F12 (Or.inr (slot_ne (t := .long) (t' := (.object "java/lang/Object")) (Or.inl w_300) (Or.inr w_290) (by decide) (by decide) (by decide)))
  refine own_go (B := (T13.setTop (mkF m 15 #[rv th, .val .null, .val .null, .val (.long ja), .second, .val (.long jb), .second, .val (.long jc), .second] [(.ref th)]))) (fun t k => XS.aloadN X13.here hx rfl (hb hby own_ke_d14) rfl rfl k) ?_
  refine own_go (B := (T13.setTop (mkF m 16 #[rv th, .val .null, .val .null, .val (.long ja), .second, .val (.long jb), .second, .val (.long jc), .second] [.null, (.ref th)]))) (fun t k => XS.aloadN X13.here hx rfl (hb hby own_ke_d15) rfl rfl k) ?_
  obtain ⟨T24, h24, X24, e24, W24, st24⟩ := putF X13 hx hZ hown (host := "") (Or.inl w_291) Via.refl e13 F19 F16 (Or.inr ⟨w_292, rfl, hnm⟩) w_242 (ty := (.object "com/example/sluicegate/sluicegate/rule/ValueShards$Shard")) (by decide) rfl rfl (g := (mkF m 16 #[rv th, .val .null, .val .null, .val (.long ja), .second, .val (.long jb), .second, .val (.long jc), .second] [.null, (.ref th)])) rfl rfl (hb hby own_ke_d16)
  refine own_go (B := (T24.setTop (mkF m 19 #[rv th, .val .null, .val .null, .val (.long ja), .second, .val (.long jb), .second, .val (.long jc), .second] []))) st24 ?_
  obtain ⟨L24, X24, N24⟩ := own_abs X24 (Fr.snoc X24 N13 H9001)
  have F25 : n0 ≤ h24.size := by rw [W24.size]; exact F14
  have F26 := Keep.wr F15 W24 (Or.inl (List.mem_of_getElem? (i := 0) rfl))
  have F27 := Exa.wr W24 F16
  have F28 := Fld.other W24 F17 (Or.inr (slot_ne (t := .short) (t' := (.object "com/example/sluicegate/sluicegate/rule/ValueShards$Shard")) (Or.inl w_288) (Or.inr w_292) (by decide) (by decide) (by decide)))
  have F29 := Fld.other W24 F18 (Or.inr (slot_ne (t := (.object "java/lang/Object")) (t' := (.object "com/example/sluicegate/sluicegate/rule/ValueShards$Shard")) (Or.inr w_290) (Or.inr w_292) (by decide) (by decide) (by decide)))
  have F30 := Fld.same W24 F19
  have F31 := Fld.other W24 F20 (Or.inr (slot_ne (t := .long) (t' := (.object "com/example/sluicegate/sluicegate/rule/ValueShards$Shard")) (Or.inl w_294) (Or.inr w_292) (by decide) (by decide) (by decide)))
  have F32 := Fld.other W24 F21 (Or.inr (slot_ne (t := .long) (t' := (.object "com/example/sluicegate/sluicegate/rule/ValueShards$Shard")) (Or.inl w_296) (Or.inr w_292) (by decide) (by decide) (by decide)))
  have F33 := Fld.other W24 F22 (Or.inr (slot_ne (t := .long) (t' := (.object "com/example/sluicegate/sluicegate/rule/ValueShards$Shard")) (Or.inr w_298) (Or.inr w_292) (by decide) (by decide) (by decide)))
  have F34 := Fld.other W24 F23 (Or.inr (slot_ne (t := .long) (t' := (.object "com/example/sluicegate/sluicegate/rule/ValueShards$Shard")) (Or.inl w_300) (Or.inr w_292) (by decide) (by decide) (by decide)))
  refine own_go (B := (T24.setTop (mkF m 20 #[rv th, .val .null, .val .null, .val (.long ja), .second, .val (.long jb), .second, .val (.long jc), .second] [(.ref th)]))) (fun t k => XS.aloadN X24.here hx rfl (hb hby own_ke_d19) rfl rfl k) ?_
  refine own_go (B := (T24.setTop (mkF m 21 #[rv th, .val .null, .val .null, .val (.long ja), .second, .val (.long jb), .second, .val (.long jc), .second] [(.long ja), (.ref th)]))) (fun t k => XS.lloadN X24.here hx rfl (hb hby own_ke_d20) rfl k) ?_
  obtain ⟨T35, h35, X35, e35, W35, st35⟩ := putF X24 hx hZ hown (host := "") (Or.inl w_293) Via.refl e24 F31 F27 (Or.inl w_294) w_242 (ty := .long) (by decide) rfl rfl (g := (mkF m 21 #[rv th, .val .null, .val .null, .val (.long ja), .second, .val (.long jb), .second, .val (.long jc), .second] [(.long ja), (.ref th)])) rfl rfl (hb hby own_ke_d21)
  refine own_go (B := (T35.setTop (mkF m 24 #[rv th, .val .null, .val .null, .val (.long ja), .second, .val (.long jb), .second, .val (.long jc), .second] []))) st35 ?_
  obtain ⟨L35, X35, N35⟩ := own_abs X35 (Fr.snoc X35 N24 H9001)
  have F36 : n0 ≤ h35.size := by rw [W35.size]; exact F25
  have F37 := Keep.wr F26 W35 (Or.inl (List.mem_of_getElem? (i := 0) rfl))
  have F38 := Exa.wr W35 F27
  have F39 := Fld.other W35 F28 (Or.inr (slot_ne (t := .short) (t' := .long) (Or.inl w_288) (Or.inl w_294) (by decide) (by decide) (by decide)))
  have F40 := Fld.other W35 F29 (Or.inr (slot_ne (t := (.object "java/lang/Object")) (t' := .long) (Or.inr w_290) (Or.inl w_294) (by decide) (by decide) (by decide)))
  have F41 := Fld.other W35 F30 (Or.inr (slot_ne (t := (.object "com/example/sluicegate/sluicegate/rule/ValueShards$Shard")) (t' := .long) (Or.inr w_292) (Or.inl w_294) (by decide) (by decide) (by decide)))
  have F42 := Fld.same W35 F31
  have F43 := Fld.other W35 F32 (Or.inr (slot_ne (t := .long) (t' := .long) (Or.inl w_296) (Or.inl w_294) (by decide) (by decide) (by decide)))
  have F44 := Fld.other W35 F33 (Or.inr (slot_ne (t := .long) (t' := .long) (Or.inr w_298) (Or.inl w_294) (by decide) (by decide) (by decide)))
  have F45 := Fld.other W35 F34 (Or.inr (slot_ne (t := .long) (t' := .long) (Or.inl w_300) (Or.inl w_294) (by decide) (by decide) (by decide)))
  refine own_go (B := (T35.setTop (mkF m 25 #[rv th, .val .null, .val .null, .val (.long ja), .second, .val (.long jb), .second, .val (.long jc), .second] [(.ref th)]))) (fun t k => XS.aloadN X35.here hx rfl (hb hby own_ke_d24) rfl rfl k) ?_
  refine own_go (B := (T35.setTop (mkF m 27 #[rv th, .val .null, .val .null, .val (.long ja), .second, .val (.long jb), .second, .val (.long jc), .second] [(.long jb), (.ref th)]))) (fun t k => XS.lload X35.here hx rfl (hb hby own_ke_d25) rfl k) ?_
  obtain ⟨T46, h46, X46, e46, W46, st46⟩ := putF X35 hx hZ hown (host := "") (Or.inl w_295) Via.refl e35 F43 F38 (Or.inl w_296) w_242 (ty := .long) (by decide) rfl rfl (g := (mkF m 27 #[rv th, .val .null, .val .null, .val (.long ja), .second, .val (.long jb), .second, .val (.long jc), .second] [(.long jb), (.ref th)])) rfl rfl (hb hby own_ke_d27)
  refine own_go (B := (T46.setTop (mkF m 30 #[rv th, .val .null, .val .null, .val (.long ja), .second, .val (.long jb), .second, .val (.long jc), .second] []))) st46 ?_
  obtain ⟨L46, X46, N46⟩ := own_abs X46 (Fr.snoc X46 N35 H9001)
  have F47 : n0 ≤ h46.size := by rw [W46.size]; exact F36
  have F48 := Keep.wr F37 W46 (Or.inl (List.mem_of_getElem? (i := 0) rfl))
  have F49 := Exa.wr W46 F38
  have F50 := Fld.other W46 F39 (Or.inr (slot_ne (t := .short) (t' := .long) (Or.inl w_288) (Or.inl w_296) (by decide) (by decide) (by decide)))
  have F51 := Fld.other W46 F40 (Or.inr (slot_ne (t := (.object "java/lang/Object")) (t' := .long) (Or.inr w_290) (Or.inl w_296) (by decide) (by decide) (by decide)))
  have F52 := Fld.other W46 F41 (Or.inr (slot_ne (t := (.object "com/example/sluicegate/sluicegate/rule/ValueShards$Shard")) (t' := .long) (Or.inr w_292) (Or.inl w_296) (by decide) (by decide) (by decide)))
  have F53 := Fld.other W46 F42 (Or.inr (slot_ne (t := .long) (t' := .long) (Or.inl w_294) (Or.inl w_296) (by decide) (by decide) (by decide)))
  have F54 := Fld.same W46 F43
  have F55 := Fld.other W46 F44 (Or.inr (slot_ne (t := .long) (t' := .long) (Or.inr w_298) (Or.inl w_296) (by decide) (by decide) (by decide)))
  have F56 := Fld.other W46 F45 (Or.inr (slot_ne (t := .long) (t' := .long) (Or.inl w_300) (Or.inl w_296) (by decide) (by decide) (by decide)))
  refine own_go (B := (T46.setTop (mkF m 31 #[rv th, .val .null, .val .null, .val (.long ja), .second, .val (.long jb), .second, .val (.long jc), .second] [(.ref th)]))) (fun t k => XS.aloadN X46.here hx rfl (hb hby own_ke_d30) rfl rfl k) ?_
  refine own_go (B := (T46.setTop (mkF m 33 #[rv th, .val .null, .val .null, .val (.long ja), .second, .val (.long jb), .second, .val (.long jc), .second] [(.long jc), (.ref th)]))) (fun t k => XS.lload X46.here hx rfl (hb hby own_ke_d31) rfl k) ?_
  obtain ⟨T57, h57, X57, e57, W57, st57⟩ := putF X46 hx hZ hown (host := "") (Or.inl w_297) Via.refl e46 F55 F49 (Or.inr ⟨w_298, rfl, hnm⟩) w_242 (ty := .long) (by decide) rfl rfl (g := (mkF m 33 #[rv th, .val .null, .val .null, .val (.long ja), .second, .val (.long jb), .second, .val (.long jc), .second] [(.long jc), (.ref th)])) rfl rfl (hb hby own_ke_d33)
  refine own_go (B := (T57.setTop (mkF m 36 #[rv th, .val .null, .val .null, .val (.long ja), .second, .val (.long jb), .second, .val (.long jc), .second] []))) st57 ?_
  obtain ⟨L57, X57, N57⟩ := own_abs X57 (Fr.snoc X57 N46 H9001)
  have F58 : n0 ≤ h57.size := by rw [W57.size]; exact F47
  have F59 := Keep.wr F48 W57 (Or.inl (List.mem_of_getElem? (i := 0) rfl))
  have F60 := Exa.wr W57 F49
  have F61 := Fld.other W57 F50 (Or.inr (slot_ne (t := .short) (t' := .long) (Or.inl w_288) (Or.inr w_298) (by decide) (by decide) (by decide)))
  have F62 := Fld.other W57 F51 (Or.inr (slot_ne (t := (.object "java/lang/Object")) (t' := .long) (Or.inr w_290) (Or.inr w_298) (by decide) (by decide) (by decide)))
  have F63 := Fld.other W57 F52 (Or.inr (slot_ne (t := (.object "com/example/sluicegate/sluicegate/rule/ValueShards$Shard")) (t' := .long) (Or.inr w_292) (Or.inr w_298) (by decide) (by decide) (by decide)))
  have F64 := Fld.other W57 F53 (Or.inr (slot_ne (t := .long) (t' := .long) (Or.inl w_294) (Or.inr w_298) (by decide) (by decide) (by decide)))
  have F65 := Fld.other W57 F54 (Or.inr (slot_ne (t := .long) (t' := .long) (Or.inl w_296) (Or.inr w_298) (by decide) (by decide) (by decide)))
  have F66 := Fld.same W57 F55
  have F67 := Fld.other W57 F56 (Or.inr (slot_ne (t := .long) (t' := .long) (Or.inl w_300) (Or.inr w_298) (by decide) (by decide) (by decide)))
  exact own_retV X57 hx hlk Bd.returns (hb hby own_ke_d36) (own_b rfl) (own_b rfl) (Q := (own_ke_Q Z th ja jb jc h0 n0)) (by rw [e57]; exact ⟨rfl, N57, F59, F60, F67⟩)

theorem own_la_d0 : decode prog_58_method_1_code 0 = .ok (.aload_n 0, 1) := by decide +kernel
theorem own_la_d1 : decode prog_58_method_1_code 1 = .ok (.aload_n 1, 1) := by decide +kernel
theorem own_la_d2 : decode prog_58_method_1_code 2 = .ok (.aload_n 2, 1) := by decide +kernel
theorem own_la_d3 : decode prog_58_method_1_code 3 = .ok (.lload_n 3, 1) := by decide +kernel
theorem own_la_d4 : decode prog_58_method_1_code 4 = .ok (.lload 5, 2) := by decide +kernel
theorem own_la_d6 : decode prog_58_method_1_code 6 = .ok (.lload 7, 2) := by decide +kernel
theorem own_la_d8 : decode prog_58_method_1_code 8 = .ok (.invokespecial 1, 3) := by decide +kernel
theorem own_la_d11 : decode prog_58_method_1_code 11 = .ok (.aload_n 0, 1) := by decide +kernel
theorem own_la_d12 : decode prog_58_method_1_code 12 = .ok (.lload 9, 2) := by decide +kernel
theorem own_la_d14 : decode prog_58_method_1_code 14 = .ok (.putfield 7, 3) := by decide +kernel
theorem own_la_d17 : decode prog_58_method_1_code 17 = .ok (.return_, 1) := by decide +kernel
theorem own_la_pn : plainName "com/example/sluicegate/sluicegate/rule/PacedValues$Latest" = true := by first | (simp [plainName, overriddenIn]; done) | decide +kernel
theorem own_la_ef (m : MethodId) (th : Addr) (ja : Int64) (jb : Int64) (jc : Int64) (jd : Int64) : entryFrame m #[(.ref th), .null, .null, (.long ja), (.long jb), (.long jc), (.long jd)] 11 = mkF m 0 #[rv th, .val .null, .val .null, .val (.long ja), .second, .val (.long jb), .second, .val (.long jc), .second, .val (.long jd), .second] [] := by first | (simp [entryFrame, mkF, argsToLocals, Value.category]; done) | rfl
def own_la_Q (Z : State) (th : Addr) (ja : Int64) (jb : Int64) (jc : Int64) (jd : Int64) (h0 : Heap) (n0 : Nat) (v : Option Value) (h : Heap) (L : List Loc) : Prop := v = none ∧ Fr n0 L ∧ Keep h0 h [th] ∧ Exa Z h th "com/example/sluicegate/sluicegate/rule/PacedValues$Latest" ∧ Fld Z h th "com/example/sluicegate/sluicegate/rule/PacedValues$Latest" "slotNanos" "J" (.long jd)
set_option maxRecDepth 65536 in
set_option maxHeartbeats 40000000 in
theorem own_la (l : Launch) (Z : State) (a0 : Array Value) (hw : ∀ d ∈ tables_1, d.before a0 Z = true) (ws : List Jvm.Cond) (th : Addr) (ja : Int64) (jb : Int64) (jc : Int64) (jd : Int64) (h0 : Heap) (n0 : Nat) (Z0 : n0 ≤ h0.size) (H9000 : Exa Z h0 th "com/example/sluicegate/sluicegate/rule/PacedValues$Latest") (H9001 : n0 ≤ th) (H9002 : Fld Z h0 th "com/example/sluicegate/sluicegate/rule/HotValues$Kept" "sparedPlace" "S" (.int (0 : Int32))) (H9003 : Fld Z h0 th "com/example/sluicegate/sluicegate/rule/HotValues$Kept" "value" "Ljava/lang/Object;" .null) (H9004 : Fld Z h0 th "com/example/sluicegate/sluicegate/rule/HotValues$Kept" "shard" "Lcom/example/sluicegate/sluicegate/rule/ValueShards$Shard;" .null) (H9005 : Fld Z h0 th "com/example/sluicegate/sluicegate/rule/HotValues$Kept" "filledMillis" "J" (.long (0 : Int64))) (H9006 : Fld Z h0 th "com/example/sluicegate/sluicegate/rule/HotValues$Kept" "latestCall" "J" (.long (0 : Int64))) (H9007 : Fld Z h0 th "com/example/sluicegate/sluicegate/rule/HotValues$Kept" "seen" "J" (.long (0 : Int64))) (H9008 : Fld Z h0 th "com/example/sluicegate/sluicegate/rule/PacedValues$Latest" "slotNanos" "J" (.long (0 : Int64))) :
    MetFree l own_y26 (head1 (Jvm.Cond.code own_y26 prog_58_method_1_code 11 none :: ws) ({ frames := 2, cells := 0, slots := 0, locals := 32 } : Room)) (fun a U => a = #[(.ref th), .null, .null, (.long ja), (.long jb), (.long jc), (.long jd)] ∧ Z.Warmed39 U.vm ∧ U.heap = h0) (fun _ _ _ _ _ => True) (fun _ U o U' => ∃ v L, o = .returned v ∧ (own_la_Q Z th ja jb jc jd h0 n0) v U'.heap L ∧ FrameEnd U o U' L ({ frames := 2, cells := 0, slots := 0, locals := 32 } : Room).cells ({ frames := 2, cells := 0, slots := 0, locals := 32 } : Room).slots) := by
  refine MetFree.of_bodySF (plainFor_of_name own_la_pn) hisR ?_
  intro p e s m args below meth c s₁ Bd hml0 hP hK
  obtain ⟨rfl, hZ, hh⟩ := hP
  have hx := Bd.exec
  have hby := Bd.bytes
  have hml : c.maxLocals = 11 := hml0
  have hown : s.vm.findClass "com/example/sluicegate/sluicegate/rule/PacedValues$Latest" = some m.cls := findClass_of_methodNamed Bd.named
  have hnm := (name_of_methodNamed Bd.named Bd.method).1
  have hlk : meth.locks = false := Bd.notSynchronized
  have X0 : Stand p l e ({ frames := 2, cells := 0, slots := 0, locals := 32 } : Room) s m #[(.ref th), .null, .null, (.long ja), (.long jb), (.long jc), (.long jd)] below meth c s₁ [] 0 0 := Stand.of_body Bd
  have e0 : s₁.heap = h0 := by rw [← hh, Bd.state]; rfl
  have N0 := Fr.nil n0
  have w_242 := hw _ (List.mem_of_getElem? (l := tables_1) (i := 242) rfl)
  have w_281 := hw _ (List.mem_of_getElem? (l := tables_1) (i := 281) rfl)
  have w_282 := hw _ (List.mem_of_getElem? (l := tables_1) (i := 282) rfl)
  have w_284 := hw _ (List.mem_of_getElem? (l := tables_1) (i := 284) rfl)
  have w_285 := hw _ (List.mem_of_getElem? (l := tables_1) (i := 285) rfl)
  have w_299 := hw _ (List.mem_of_getElem? (l := tables_1) (i := 299) rfl)
  have w_300 := hw _ (List.mem_of_getElem? (l := tables_1) (i := 300) rfl)
  show own_G p.tables e below (fun o U' => ∃ v L, o = .returned v ∧ (own_la_Q Z th ja jb jc jd h0 n0) v U'.heap L ∧ FrameEnd s o U' L ({ frames := 2, cells := 0, slots := 0, locals := 32 } : Room).cells ({ frames := 2, cells := 0, slots := 0, locals := 32 } : Room).slots) (s₁.setTop (entryFrame m #[(.ref th), .null, .null, (.long ja), (.long jb), (.long jc), (.long jd)] 11))
  refine own_go (B := s₁.setTop (mkF m 0 #[rv th, .val .null, .val .null, .val (.long ja), .second, .val (.long jb), .second, .val (.long jc), .second, .val (.long jd), .second] [])) (fun t k => castTop (own_la_ef m th ja jb jc jd) k) ?_
  have K0 := Keep.refl h0 [th]
  refine own_go (B := (s₁.setTop (mkF m 1 #[rv th, .val .null, .val .null, .val (.long ja), .second, .val (.long jb), .second, .val (.long jc), .second, .val (.long jd), .second] [(.ref th)]))) (fun t k => XS.aloadN X0.here hx rfl (hb hby own_la_d0) rfl rfl k) ?_
  refine own_go (B := (s₁.setTop (mkF m 2 #[rv th, .val .null, .val .null, .val (.long ja), .second, .val (.long jb), .second, .val (.long jc), .second, .val (.long jd), .second] [.null, (.ref th)]))) (fun t k => XS.aloadN X0.here hx rfl (hb hby own_la_d1) rfl rfl k) ?_
  refine own_go (B := (s₁.setTop (mkF m 3 #[rv th, .val .null, .val .null, .val (.long ja), .second, .val (.long jb), .second, .val (.long jc), .second, .val (.long jd), .second] [.null, .null, (.ref th)]))) (fun t k => XS.aloadN X0.here hx rfl (hb hby own_la_d2) rfl rfl k) ?_
  refine own_go (B := (s₁.setTop (mkF m 4 #[rv th, .val .null, .val .null, .val (.long ja), .second, .val (.long jb), .second, .val (.long jc), .second, .val (.long jd), .second] [(.long ja), .null, .null, (.ref th)]))) (fun t k => XS.lloadN X0.here hx rfl (hb hby own_la_d3) rfl k) ?_
  refine own_go (B := (s₁.setTop (mkF m 6 #[rv th, .val .null, .val .null, .val (.long ja), .second, .val (.long jb), .second, .val (.long jc), .second, .val (.long jd), .second] [(.long jb), (.long ja), .null, .null, (.ref th)]))) (fun t k => XS.lload X0.here hx rfl (hb hby own_la_d4) rfl k) ?_
  refine own_go (B := (s₁.setTop (mkF m 8 #[rv th, .val .null, .val .null, .val (.long ja), .second, .val (.long jb), .second, .val (.long jc), .second, .val (.long jd), .second] [(.long jc), (.long jb), (.long ja), .null, .null, (.ref th)]))) (fun t k => XS.lload X0.here hx rfl (hb hby own_la_d6) rfl k) ?_
  obtain ⟨_, _, ⟨T1, L1, k1, n1⟩, -, X1, ⟨Lc1, hQ1, l1, yy1, zz1⟩, st1⟩ := X0.specialBack hx (y := own_y23) rfl hown (mvT hZ w_281) (mvT hZ w_282) (mvT hZ w_285) (by decide) (backOf (W := 0) (own_ke l Z a0 hw [] th ja jb jc h0 n0 Z0 H9000 H9001 H9002 H9003 H9004 H9005 H9006 H9007 H9008) hZ w_285 w_284 (by decide) (by decide)) (g := (mkF m 8 #[rv th, .val .null, .val .null, .val (.long ja), .second, .val (.long jb), .second, .val (.long jc), .second, .val (.long jd), .second] [(.long jc), (.long jb), (.long ja), .null, .null, (.ref th)])) rfl (by rw [hml]; rfl) (Steps.refl _) (a := th) (argsL := [.null, .null, (.long ja), (.long jb), (.long jc)]) (rest := []) (lenOf own_pd12 rfl) rfl (by show 2 * 0 + _ ≤ _; exact own_b rfl) (hb hby own_la_d8) (fun _ _ => ⟨rfl, e0, (own_b rfl : 0 + 0 ≤ _), (own_b rfl : 0 + 0 ≤ _)⟩)
  dsimp only [Pt.U, Pt.locs, Pt.cells, Pt.slots] at X1 l1 yy1 zz1 st1 hQ1
  obtain ⟨rfl, Nq1, K1, g0_1, g1_1⟩ := hQ1
  obtain ⟨L1, X1, N1⟩ := own_absC (K := 0) (K' := 0) X1 l1 yy1 zz1 N0 Nq1
  have F2 : n0 ≤ T1.heap.size := Nat.le_trans Z0 K1.1
  have F3 := Keep.trans K0 K1 (allS (Or.inl (List.mem_of_getElem? (i := 0) rfl)) all0)
  have F4 := Exa.keep H9000 K1
  refine own_tr (B := (T1.setTop (mkF m 11 #[rv th, .val .null, .val .null, .val (.long ja), .second, .val (.long jb), .second, .val (.long jc), .second, .val (.long jd), .second] []))) st1 ?_
  refine own_go (B := (T1.setTop (mkF m 12 #[rv th, .val .null, .val .null, .val (.long ja), .second, .val (.long jb), .second, .val (.long jc), .second, .val (.long jd), .second] [(.ref th)]))) (fun t k => XS.aloadN X1.here hx rfl (hb hby own_la_d11) rfl rfl k) ?_
  refine own_go (B := (T1.setTop (mkF m 14 #[rv th, .val .null, .val .null, .val (.long ja), .second, .val (.long jb), .second, .val (.long jc), .second, .val (.long jd), .second] [(.long jd), (.ref th)]))) (fun t k => XS.lload X1.here hx rfl (hb hby own_la_d12) rfl k) ?_
  obtain ⟨T12, h12, X12, e12, W12, st12⟩ := putF X1 hx hZ hown (host := "") (Or.inl w_299) Via.refl rfl g1_1 g0_1 (Or.inl w_300) w_242 (ty := .long) (by decide) rfl rfl (g := (mkF m 14 #[rv th, .val .null, .val .null, .val (.long ja), .second, .val (.long jb), .second, .val (.long jc), .second, .val (.long jd), .second] [(.long jd), (.ref th)])) rfl rfl (hb hby own_la_d14)
  refine own_go (B := (T12.setTop (mkF m 17 #[rv th, .val .null, .val .null, .val (.long ja), .second, .val (.long jb), .second, .val (.long jc), .second, .val (.long jd), .second] []))) st12 ?_
  obtain ⟨L12, X12, N12⟩ := own_abs X12 (Fr.snoc X12 N1 H9001)
  have F13 : n0 ≤ h12.size := by rw [W12.size]; exact F2
  have F14 := Keep.wr F3 W12 (Or.inl (List.mem_of_getElem? (i := 0) rfl))
  have F15 := Exa.wr W12 g0_1
  have F16 := Fld.same W12 g1_1
  exact own_retV X12 hx hlk Bd.returns (hb hby own_la_d17) (own_b rfl) (own_b rfl) (Q := (own_la_Q Z th ja jb jc jd h0 n0)) (by rw [e12]; exact ⟨rfl, N12, F14, F15, F16⟩)

theorem own_ma_d0 : decode prog_57_method_3_code 0 = .ok (.new 49, 3) := by decide +kernel
theorem own_ma_d3 : decode prog_57_method_3_code 3 = .ok (.dup, 1) := by decide +kernel
theorem own_ma_d4 : decode prog_57_method_3_code 4 = .ok (.aload_n 1, 1) := by decide +kernel
theorem own_ma_d5 : decode prog_57_method_3_code 5 = .ok (.aload_n 2, 1) := by decide +kernel
theorem own_ma_d6 : decode prog_57_method_3_code 6 = .ok (.lload 7, 2) := by decide +kernel
theorem own_ma_d8 : decode prog_57_method_3_code 8 = .ok (.aload_n 0, 1) := by decide +kernel
theorem own_ma_d9 : decode prog_57_method_3_code 9 = .ok (.aload 9, 2) := by decide +kernel
theorem own_ma_d11 : decode prog_57_method_3_code 11 = .ok (.lload_n 3, 1) := by decide +kernel
theorem own_ma_d12 : decode prog_57_method_3_code 12 = .ok (.invokevirtual 69, 3) := by decide +kernel
theorem own_ma_d15 : decode prog_57_method_3_code 15 = .ok (.lload 10, 2) := by decide +kernel
theorem own_ma_d17 : decode prog_57_method_3_code 17 = .ok (.aload 9, 2) := by decide +kernel
theorem own_ma_d19 : decode prog_57_method_3_code 19 = .ok (.invokevirtual 73, 3) := by decide +kernel
theorem own_ma_d22 : decode prog_57_method_3_code 22 = .ok (.invokespecial 75, 3) := by decide +kernel
theorem own_ma_d25 : decode prog_57_method_3_code 25 = .ok (.areturn, 1) := by decide +kernel
theorem own_ma_pn : plainName "com/example/sluicegate/sluicegate/rule/PacedValues" = true := by first | (simp [plainName, overriddenIn]; done) | decide +kernel
theorem own_ma_ef (m : MethodId) (th : Addr) (lm : Int64) (sl : Addr) : entryFrame m #[(.ref th), .null, .null, (.long lm), (.long (1 : Int64)), (.long (0 : Int64)), (.ref sl), (.long (0 : Int64))] 12 = mkF m 0 #[rv th, .val .null, .val .null, .val (.long lm), .second, .val (.long (1 : Int64)), .second, .val (.long (0 : Int64)), .second, rv sl, .val (.long (0 : Int64)), .second] [] := by first | (simp [entryFrame, mkF, argsToLocals, Value.category]; done) | rfl
def own_ma_Q (Z : State) (th : Addr) (lm : Int64) (sl : Addr) (dn fr wt : Int64) (ac : Addr) (h0 : Heap) (n0 : Nat) (v : Option Value) (h : Heap) (L : List Loc) : Prop := ∃ b, v = some (.ref b) ∧ Fr n0 L ∧ Keep h0 h [] ∧ h0.size ≤ b ∧ Exa Z h b "com/example/sluicegate/sluicegate/rule/PacedValues$Latest" ∧ Fld Z h b "com/example/sluicegate/sluicegate/rule/PacedValues$Latest" "slotNanos" "J" (.long (fr + wt))
set_option maxRecDepth 65536 in
set_option maxHeartbeats 40000000 in
theorem own_ma (l : Launch) (Z : State) (a0 : Array Value) (hw : ∀ d ∈ tables_1, d.before a0 Z = true) (ws : List Jvm.Cond) (th : Addr) (lm : Int64) (sl : Addr) (dn fr wt : Int64) (ac : Addr) (h0 : Heap) (n0 : Nat) (Z0 : n0 ≤ h0.size) (H9000 : Exa Z h0 th "com/example/sluicegate/sluicegate/rule/PacedValues") (H9001 : Fld Z h0 th "com/example/sluicegate/sluicegate/rule/PacedValues" "durationNanos" "J" (.long dn)) (H9002 : Exa Z h0 sl "com/example/sluicegate/sluicegate/rule/Slot") (H9003 : Fld Z h0 sl "com/example/sluicegate/sluicegate/rule/Slot" "fromNanos" "J" (.long fr)) (H9004 : Fld Z h0 sl "com/example/sluicegate/sluicegate/rule/Slot" "waitNanos" "J" (.long wt)) (H9005 : Sta Z h0 "java/math/RoundingMode" "CEILING" "Ljava/math/RoundingMode;" (.ref ac)) (hdn : ¬ dn = (0 : Int64)) (hlm : ¬ lm = (0 : Int64)) (hdv : ¬ ((9223372036854775807 : Int64) / dn) < (1 : Int64)) :
    MetFree l own_y34 (head1 (Jvm.Cond.code own_y34 prog_57_method_3_code 12 (some (.object "com/example/sluicegate/sluicegate/rule/HotValues$Kept")) :: ws) ({ frames := 3, cells := 1, slots := 17, locals := 61 } : Room)) (fun a U => a = #[(.ref th), .null, .null, (.long lm), (.long (1 : Int64)), (.long (0 : Int64)), (.ref sl), (.long (0 : Int64))] ∧ Z.Warmed39 U.vm ∧ U.heap = h0) (fun _ _ _ _ _ => True) (fun _ U o U' => ∃ v L, o = .returned v ∧ (own_ma_Q Z th lm sl dn fr wt ac h0 n0) v U'.heap L ∧ FrameEnd U o U' L ({ frames := 3, cells := 1, slots := 17, locals := 61 } : Room).cells ({ frames := 3, cells := 1, slots := 17, locals := 61 } : Room).slots) := by
  refine MetFree.of_bodySF (plainFor_of_name own_ma_pn) hisR ?_
  intro p e s m args below meth c s₁ Bd hml0 hP hK
  obtain ⟨rfl, hZ, hh⟩ := hP
  have hx := Bd.exec
  have hby := Bd.bytes
  have hml : c.maxLocals = 12 := hml0
  have hown : s.vm.findClass "com/example/sluicegate/sluicegate/rule/PacedValues" = some m.cls := findClass_of_methodNamed Bd.named
  have hnm := (name_of_methodNamed Bd.named Bd.method).1
  have hlk : meth.locks = false := Bd.notSynchronized
  have X0 : Stand p l e ({ frames := 3, cells := 1, slots := 17, locals := 61 } : Room) s m #[(.ref th), .null, .null, (.long lm), (.long (1 : Int64)), (.long (0 : Int64)), (.ref sl), (.long (0 : Int64))] below meth c s₁ [] 0 0 := Stand.of_body Bd
  have e0 : s₁.heap = h0 := by rw [← hh, Bd.state]; rfl
  have N0 := Fr.nil n0
  have w_79 := hw _ (List.mem_of_getElem? (l := tables_1) (i := 79) rfl)
  have w_80 := hw _ (List.mem_of_getElem? (l := tables_1) (i := 80) rfl)
  have w_219 := hw _ (List.mem_of_getElem? (l := tables_1) (i := 219) rfl)
  have w_241 := hw _ (List.mem_of_getElem? (l := tables_1) (i := 241) rfl)
  have w_242 := hw _ (List.mem_of_getElem? (l := tables_1) (i := 242) rfl)
  have w_243 := hw _ (List.mem_of_getElem? (l := tables_1) (i := 243) rfl)
  have w_244 := hw _ (List.mem_of_getElem? (l := tables_1) (i := 244) rfl)
  have w_245 := hw _ (List.mem_of_getElem? (l := tables_1) (i := 245) rfl)
  have w_246 := hw _ (List.mem_of_getElem? (l := tables_1) (i := 246) rfl)
  have w_247 := hw _ (List.mem_of_getElem? (l := tables_1) (i := 247) rfl)
  have w_273 := hw _ (List.mem_of_getElem? (l := tables_1) (i := 273) rfl)
  have w_274 := hw _ (List.mem_of_getElem? (l := tables_1) (i := 274) rfl)
  have w_275 := hw _ (List.mem_of_getElem? (l := tables_1) (i := 275) rfl)
  have w_276 := hw _ (List.mem_of_getElem? (l := tables_1) (i := 276) rfl)
  have w_277 := hw _ (List.mem_of_getElem? (l := tables_1) (i := 277) rfl)
  have w_278 := hw _ (List.mem_of_getElem? (l := tables_1) (i := 278) rfl)
  have w_279 := hw _ (List.mem_of_getElem? (l := tables_1) (i := 279) rfl)
  have w_280 := hw _ (List.mem_of_getElem? (l := tables_1) (i := 280) rfl)
  have w_288 := hw _ (List.mem_of_getElem? (l := tables_1) (i := 288) rfl)
  have w_290 := hw _ (List.mem_of_getElem? (l := tables_1) (i := 290) rfl)
  have w_292 := hw _ (List.mem_of_getElem? (l := tables_1) (i := 292) rfl)
  have w_294 := hw _ (List.mem_of_getElem? (l := tables_1) (i := 294) rfl)
  have w_296 := hw _ (List.mem_of_getElem? (l := tables_1) (i := 296) rfl)
  have w_298 := hw _ (List.mem_of_getElem? (l := tables_1) (i := 298) rfl)
  have w_300 := hw _ (List.mem_of_getElem? (l := tables_1) (i := 300) rfl)
  show own_G p.tables e below (fun o U' => ∃ v L, o = .returned v ∧ (own_ma_Q Z th lm sl dn fr wt ac h0 n0) v U'.heap L ∧ FrameEnd s o U' L ({ frames := 3, cells := 1, slots := 17, locals := 61 } : Room).cells ({ frames := 3, cells := 1, slots := 17, locals := 61 } : Room).slots) (s₁.setTop (entryFrame m #[(.ref th), .null, .null, (.long lm), (.long (1 : Int64)), (.long (0 : Int64)), (.ref sl), (.long (0 : Int64))] 12))
  refine own_go (B := s₁.setTop (mkF m 0 #[rv th, .val .null, .val .null, .val (.long lm), .second, .val (.long (1 : Int64)), .second, .val (.long (0 : Int64)), .second, rv sl, .val (.long (0 : Int64)), .second] [])) (fun t k => castTop (own_ma_ef m th lm sl) k) ?_
  have K0 := Keep.refl h0 []
  obtain ⟨T1, h1, X1, e1, E1, A1, D1, U1, st1⟩ := newO X0 hx hZ hown w_241 w_242 w_243 e0 (g := (mkF m 0 #[rv th, .val .null, .val .null, .val (.long lm), .second, .val (.long (1 : Int64)), .second, .val (.long (0 : Int64)), .second, rv sl, .val (.long (0 : Int64)), .second] [])) rfl (hb hby own_ma_d0) (own_b rfl) (own_b rfl)
  obtain ⟨a1, ga1⟩ : ∃ z, z = h0.size := ⟨_, rfl⟩
  rw [← ga1] at A1 D1 U1 st1
  refine own_go (B := (T1.setTop (mkF m 3 #[rv th, .val .null, .val .null, .val (.long lm), .second, .val (.long (1 : Int64)), .second, .val (.long (0 : Int64)), .second, rv sl, .val (.long (0 : Int64)), .second] [(.ref a1)]))) st1 ?_
  have Z2 : n0 ≤ h1.size := Nat.le_trans Z0 E1.1
  have K3 := Keep.ext K0 E1
  have F4 := Exa.ext E1 H9000
  have F5 := Fld.ext E1 H9001
  have F6 := Exa.ext E1 H9002
  have F7 := Fld.ext E1 H9003
  have F8 := Fld.ext E1 H9004
  have F9 := Sta.ext E1 H9005
  have gn1 : n0 ≤ a1 := Nat.le_trans Z0 (Nat.le_of_eq ga1.symm)
  have ne1_th : a1 ≠ th := fun q => absurd (H9000.lt) (by rw [← q, ga1]; exact Nat.lt_irrefl _)
  have ne1_sl : a1 ≠ sl := fun q => absurd (H9002.lt) (by rw [← q, ga1]; exact Nat.lt_irrefl _)
  have F10 : Fld Z h1 a1 "com/example/sluicegate/sluicegate/rule/HotValues$Kept" "sparedPlace" "S" (.int (0 : Int32)) := D1 (Or.inl w_288) (ty := .short) (by decide)
  have F11 : Fld Z h1 a1 "com/example/sluicegate/sluicegate/rule/HotValues$Kept" "value" "Ljava/lang/Object;" .null := D1 (Or.inr w_290) (ty := (.object "java/lang/Object")) (by decide)
  have F12 : Fld Z h1 a1 "com/example/sluicegate/sluicegate/rule/HotValues$Kept" "shard" "Lcom/example/sluicegate/sluicegate/rule/ValueShards$Shard;" .null := D1 (Or.inr w_292) (ty := (.object "com/example/sluicegate/sluicegate/rule/ValueShards$Shard")) (by decide)
  have F13 : Fld Z h1 a1 "com/example/sluicegate/sluicegate/rule/HotValues$Kept" "filledMillis" "J" (.long (0 : Int64)) := D1 (Or.inl w_294) (ty := .long) (by decide)
  have F14 : Fld Z h1 a1 "com/example/sluicegate/sluicegate/rule/HotValues$Kept" "latestCall" "J" (.long (0 : Int64)) := D1 (Or.inl w_296) (ty := .long) (by decide)
  have F15 : Fld Z h1 a1 "com/example/sluicegate/sluicegate/rule/HotValues$Kept" "seen" "J" (.long (0 : Int64)) := D1 (Or.inr w_298) (ty := .long) (by decide)
  have F16 : Fld Z h1 a1 "com/example/sluicegate/sluicegate/rule/PacedValues$Latest" "slotNanos" "J" (.long (0 : Int64)) := D1 (Or.inl w_300) (ty := .long) (by decide)
  refine own_go (B := (T1.setTop (mkF m 4 #[rv th, .val .null, .val .null, .val (.long lm), .second, .val (.long (1 : Int64)), .second, .val (.long (0 : Int64)), .second, rv sl, .val (.long (0 : Int64)), .second] [(.ref a1), (.ref a1)]))) (fun t k => XS.dup X1.here hx rfl (hb hby own_ma_d3) rfl rfl k) ?_
  refine own_go (B := (T1.setTop (mkF m 5 #[rv th, .val .null, .val .null, .val (.long lm), .second, .val (.long (1 : Int64)), .second, .val (.long (0 : Int64)), .second, rv sl, .val (.long (0 : Int64)), .second] [.null, (.ref a1), (.ref a1)]))) (fun t k => XS.aloadN X1.here hx rfl (hb hby own_ma_d4) rfl rfl k) ?_
  refine own_go (B := (T1.setTop (mkF m 6 #[rv th, .val .null, .val .null, .val (.long lm), .second, .val (.long (1 : Int64)), .second, .val (.long (0 : Int64)), .second, rv sl, .val (.long (0 : Int64)), .second] [.null, .null, (.ref a1), (.ref a1)]))) (fun t k => XS.aloadN X1.here hx rfl (hb hby own_ma_d5) rfl rfl k) ?_
  refine own_go (B := (T1.setTop (mkF m 8 #[rv th, .val .null, .val .null, .val (.long lm), .second, .val (.long (1 : Int64)), .second, .val (.long (0 : Int64)), .second, rv sl, .val (.long (0 : Int64)), .second] [(.long (0 : Int64)), .null, .null, (.ref a1), (.ref a1)]))) (fun t k => XS.lload X1.here hx rfl (hb hby own_ma_d6) rfl k) ?_
  refine own_go (B := (T1.setTop (mkF m 9 #[rv th, .val .null, .val .null, .val (.long lm), .second, .val (.long (1 : Int64)), .second, .val (.long (0 : Int64)), .second, rv sl, .val (.long (0 : Int64)), .second] [(.ref th), (.long (0 : Int64)), .null, .null, (.ref a1), (.ref a1)]))) (fun t k => XS.aloadN X1.here hx rfl (hb hby own_ma_d8) rfl rfl k) ?_
  refine own_go (B := (T1.setTop (mkF m 11 #[rv th, .val .null, .val .null, .val (.long lm), .second, .val (.long (1 : Int64)), .second, .val (.long (0 : Int64)), .second, rv sl, .val (.long (0 : Int64)), .second] [(.ref sl), (.ref th), (.long (0 : Int64)), .null, .null, (.ref a1), (.ref a1)]))) (fun t k => XS.aload X1.here hx rfl (hb hby own_ma_d9) rfl rfl k) ?_
  refine own_go (B := (T1.setTop (mkF m 12 #[rv th, .val .null, .val .null, .val (.long lm), .second, .val (.long (1 : Int64)), .second, .val (.long (0 : Int64)), .second, rv sl, .val (.long (0 : Int64)), .second] [(.long lm), (.ref sl), (.ref th), (.long (0 : Int64)), .null, .null, (.ref a1), (.ref a1)]))) (fun t k => XS.lloadN X1.here hx rfl (hb hby own_ma_d11) rfl k) ?_
  obtain ⟨pc17, pq17, pr17⟩ := Exa.cell F4
  obtain ⟨_, _, ⟨T17, L17, k17, n17⟩, -, X17, ⟨Lc17, hQ17, l17, yy17, zz17⟩, st17⟩ := X1.privateBack hx (y := own_y24) hown (mvT hZ w_244) (mvT hZ w_245) (own_selp hZ w_79 w_246 w_245 (by decide)) (Cond.privateMethod_at (mvP hZ w_246 (args := #[]))) (mvT hZ w_247) (by decide) (backOf (W := 6) (own_cn l Z a0 hw [] th sl lm dn fr wt ac h1 n0 Z2 F4 F5 F6 F7 F8 F9 hdn hlm hdv) hZ w_247 w_80 (by decide) (by decide)) (g := (mkF m 12 #[rv th, .val .null, .val .null, .val (.long lm), .second, .val (.long (1 : Int64)), .second, .val (.long (0 : Int64)), .second, rv sl, .val (.long (0 : Int64)), .second] [(.long lm), (.ref sl), (.ref th), (.long (0 : Int64)), .null, .null, (.ref a1), (.ref a1)])) rfl (by rw [hml]; rfl) (Steps.refl _) (a := th) (by rw [e1]; exact pq17) pr17 (argsL := [(.ref sl), (.long lm)]) (rest := [(.long (0 : Int64)), .null, .null, (.ref a1), (.ref a1)]) (lenOf own_pd13 rfl) rfl (by show 2 * 0 + _ ≤ _; exact own_b rfl) (hb hby own_ma_d12) (fun _ _ => ⟨rfl, e1, (own_b rfl : 1 + 0 ≤ _), (own_b rfl : 17 + 0 ≤ _)⟩)
  dsimp only [Pt.U, Pt.locs, Pt.cells, Pt.slots] at X17 l17 yy17 zz17 st17 hQ17
  obtain ⟨r17, rfl, Nq17, eq17⟩ := hQ17
  obtain ⟨L17, X17, N17⟩ := own_absC (K := 1) (K' := 17) X17 l17 yy17 zz17 N0 Nq17
  have e17 : T17.heap = h1 := eq17
  refine own_tr (B := (T17.setTop (mkF m 15 #[rv th, .val .null, .val .null, .val (.long lm), .second, .val (.long (1 : Int64)), .second, .val (.long (0 : Int64)), .second, rv sl, .val (.long (0 : Int64)), .second] [(.long r17), (.long (0 : Int64)), .null, .null, (.ref a1), (.ref a1)]))) st17 ?_
  refine own_go (B := (T17.setTop (mkF m 17 #[rv th, .val .null, .val .null, .val (.long lm), .second, .val (.long (1 : Int64)), .second, .val (.long (0 : Int64)), .second, rv sl, .val (.long (0 : Int64)), .second] [(.long (0 : Int64)), (.long r17), (.long (0 : Int64)), .null, .null, (.ref a1), (.ref a1)]))) (fun t k => XS.lload X17.here hx rfl (hb hby own_ma_d15) rfl k) ?_
  refine own_go (B := (T17.setTop (mkF m 19 #[rv th, .val .null, .val .null, .val (.long lm), .second, .val (.long (1 : Int64)), .second, .val (.long (0 : Int64)), .second, rv sl, .val (.long (0 : Int64)), .second] [(.ref sl), (.long (0 : Int64)), (.long r17), (.long (0 : Int64)), .null, .null, (.ref a1), (.ref a1)]))) (fun t k => XS.aload X17.here hx rfl (hb hby own_ma_d17) rfl rfl k) ?_
  obtain ⟨cq18, kq18, qa18, qb18, qc18⟩ := isOf hZ e17 F6
  obtain ⟨_, _, ⟨T18, L18, k18, n18⟩, -, X18, ⟨Lc18, hQ18, l18, yy18, zz18⟩, st18⟩ := X17.virtualBack hx (y := own_y25) (z := own_y25) hown (mvT hZ w_273) (mvT hZ w_274) (notFace_of_selects (args := #[]) (mvT hZ w_276)) (mvT hZ w_276) (mvT hZ w_275) (by decide) (backOf (W := 10) (own_gs l Z a0 hw [] sl fr wt h1 n0 Z2 F7 F8) hZ w_277 w_219 (by decide) (by decide)) qa18 qc18 (g := (mkF m 19 #[rv th, .val .null, .val .null, .val (.long lm), .second, .val (.long (1 : Int64)), .second, .val (.long (0 : Int64)), .second, rv sl, .val (.long (0 : Int64)), .second] [(.ref sl), (.long (0 : Int64)), (.long r17), (.long (0 : Int64)), .null, .null, (.ref a1), (.ref a1)])) rfl (by rw [hml]; rfl) (Steps.refl _) (argsL := []) (rest := [(.long (0 : Int64)), (.long r17), (.long (0 : Int64)), .null, .null, (.ref a1), (.ref a1)]) (lenOf own_pd9 rfl) rfl (by show 2 * 0 + _ ≤ _; exact own_b rfl) (hb hby own_ma_d19) (fun _ _ => ⟨rfl, e17, (own_b rfl : 1 + 0 ≤ _), (own_b rfl : 17 + 0 ≤ _)⟩)
  dsimp only [Pt.U, Pt.locs, Pt.cells, Pt.slots] at X18 l18 yy18 zz18 st18 hQ18
  obtain ⟨rfl, Nq18, eq18⟩ := hQ18
  obtain ⟨L18, X18, N18⟩ := own_absC (K := 1) (K' := 17) X18 l18 yy18 zz18 N17 Nq18
  have e18 : T18.heap = h1 := eq18
  refine own_tr (B := (T18.setTop (mkF m 22 #[rv th, .val .null, .val .null, .val (.long lm), .second, .val (.long (1 : Int64)), .second, .val (.long (0 : Int64)), .second, rv sl, .val (.long (0 : Int64)), .second] [(.long (fr + wt)), (.long (0 : Int64)), (.long r17), (.long (0 : Int64)), .null, .null, (.ref a1), (.ref a1)]))) st18 ?_
  obtain ⟨_, _, ⟨T19, L19, k19, n19⟩, -, X19, ⟨Lc19, hQ19, l19, yy19, zz19⟩, st19⟩ := X18.specialBack hx (y := own_y26) rfl hown (mvT hZ w_278) (mvT hZ w_279) (mvT hZ w_280) (by decide) (backOf (W := 1) (own_la l Z a0 hw [] a1 (0 : Int64) r17 (0 : Int64) (fr + wt) h1 n0 Z2 A1 gn1 F10 F11 F12 F13 F14 F15 F16) hZ w_280 w_243 (by decide) (by decide)) (g := (mkF m 22 #[rv th, .val .null, .val .null, .val (.long lm), .second, .val (.long (1 : Int64)), .second, .val (.long (0 : Int64)), .second, rv sl, .val (.long (0 : Int64)), .second] [(.long (fr + wt)), (.long (0 : Int64)), (.long r17), (.long (0 : Int64)), .null, .null, (.ref a1), (.ref a1)])) rfl (by rw [hml]; rfl) (Steps.refl _) (a := a1) (argsL := [.null, .null, (.long (0 : Int64)), (.long r17), (.long (0 : Int64)), (.long (fr + wt))]) (rest := [(.ref a1)]) (lenOf own_pd14 rfl) rfl (by show 2 * 0 + _ ≤ _; exact own_b rfl) (hb hby own_ma_d22) (fun _ _ => ⟨rfl, e18, (own_b rfl : 1 + 0 ≤ _), (own_b rfl : 17 + 0 ≤ _)⟩)
  dsimp only [Pt.U, Pt.locs, Pt.cells, Pt.slots] at X19 l19 yy19 zz19 st19 hQ19
  obtain ⟨rfl, Nq19, K19, g0_19, g1_19⟩ := hQ19
  obtain ⟨L19, X19, N19⟩ := own_absC (K := 1) (K' := 17) X19 l19 yy19 zz19 N18 Nq19
  have F20 : n0 ≤ T19.heap.size := Nat.le_trans Z2 K19.1
  have F21 := Keep.trans K3 K19 (allS (Or.inr (Nat.le_trans K0.1 (Nat.le_of_eq ga1.symm))) all0)
  have F22 := Exa.keep F4 K19
  have F23 := Fld.keep F5 K19 (ninS (Ne.symm ne1_th) nin0)
  have F24 := Exa.keep F6 K19
  have F25 := Fld.keep F7 K19 (ninS (Ne.symm ne1_sl) nin0)
  have F26 := Fld.keep F8 K19 (ninS (Ne.symm ne1_sl) nin0)
  have F27 := own_sta_keep F9 K19 (nsS (Exa.nostat A1) ns0)
  have F28 := Exa.keep A1 K19
  refine own_tr (B := (T19.setTop (mkF m 25 #[rv th, .val .null, .val .null, .val (.long lm), .second, .val (.long (1 : Int64)), .second, .val (.long (0 : Int64)), .second, rv sl, .val (.long (0 : Int64)), .second] [(.ref a1)]))) st19 ?_
  exact own_retA X19 hx hlk Bd.returns rfl rfl (hb hby own_ma_d25) (own_b rfl) (own_b rfl) (Q := (own_ma_Q Z th lm sl dn fr wt ac h0 n0)) ⟨_, rfl, N19, F21, Nat.le_trans K0.1 (Nat.le_of_eq ga1.symm), g0_19, g1_19⟩

theorem own_ff_d0 : decode prog_57_method_5_code 0 = .ok (.aload_n 1, 1) := by decide +kernel
theorem own_ff_d1 : decode prog_57_method_5_code 1 = .ok (.checkcast 49, 3) := by decide +kernel
theorem own_ff_d4 : decode prog_57_method_5_code 4 = .ok (.getfield 51, 3) := by decide +kernel
theorem own_ff_d7 : decode prog_57_method_5_code 7 = .ok (.lstore 4, 2) := by decide +kernel
theorem own_ff_d9 : decode prog_57_method_5_code 9 = .ok (.lload 4, 2) := by decide +kernel
theorem own_ff_d11 : decode prog_57_method_5_code 11 = .ok (.ldc2_w 85, 3) := by decide +kernel
theorem own_ff_d14 : decode prog_57_method_5_code 14 = .ok (.aload_n 0, 1) := by decide +kernel
theorem own_ff_d15 : decode prog_57_method_5_code 15 = .ok (.getfield 23, 3) := by decide +kernel
theorem own_ff_d18 : decode prog_57_method_5_code 18 = .ok (.lsub, 1) := by decide +kernel
theorem own_ff_d19 : decode prog_57_method_5_code 19 = .ok (.lcmp, 1) := by decide +kernel
theorem own_ff_d20 : decode prog_57_method_5_code 20 = .ok (.ifCond .le 9, 3) := by decide +kernel
theorem own_ff_d23 : decode prog_57_method_5_code 23 = .ok (.ldc2_w 85, 3) := by decide +kernel
theorem own_ff_d26 : decode prog_57_method_5_code 26 = .ok (.goto 10, 3) := by decide +kernel
theorem own_ff_d29 : decode prog_57_method_5_code 29 = .ok (.lload 4, 2) := by decide +kernel
theorem own_ff_d31 : decode prog_57_method_5_code 31 = .ok (.aload_n 0, 1) := by decide +kernel
theorem own_ff_d32 : decode prog_57_method_5_code 32 = .ok (.getfield 23, 3) := by decide +kernel
theorem own_ff_d35 : decode prog_57_method_5_code 35 = .ok (.ladd, 1) := by decide +kernel
theorem own_ff_d36 : decode prog_57_method_5_code 36 = .ok (.lreturn, 1) := by decide +kernel
theorem own_ff_pn : plainName "com/example/sluicegate/sluicegate/rule/PacedValues" = true := by first | (simp [plainName, overriddenIn]; done) | decide +kernel
theorem own_ff_ef (m : MethodId) (th : Addr) (pk : Addr) (lm : Int64) : entryFrame m #[(.ref th), (.ref pk), (.long lm)] 6 = mkF m 0 #[rv th, rv pk, .val (.long lm), .second, .unset, .unset] [] := by first | (simp [entryFrame, mkF, argsToLocals, Value.category]; done) | rfl
def own_ff_Q (Z : State) (th : Addr) (pk : Addr) (lm : Int64) (dn sn : Int64) (h0 : Heap) (n0 : Nat) (v : Option Value) (h : Heap) (L : List Loc) : Prop := v = some (.long (own_fresh sn dn)) ∧ Fr n0 L ∧ h = h0
set_option maxRecDepth 65536 in
set_option maxHeartbeats 40000000 in
theorem own_ff (l : Launch) (Z : State) (a0 : Array Value) (hw : ∀ d ∈ tables_1, d.before a0 Z = true) (ws : List Jvm.Cond) (th : Addr) (pk : Addr) (lm : Int64) (dn sn : Int64) (h0 : Heap) (n0 : Nat) (F0 : Fld Z h0 th "com/example/sluicegate/sluicegate/rule/PacedValues" "durationNanos" "J" (.long dn)) (E1 : Exa Z h0 pk "com/example/sluicegate/sluicegate/rule/PacedValues$Latest") (F1 : Fld Z h0 pk "com/example/sluicegate/sluicegate/rule/PacedValues$Latest" "slotNanos" "J" (.long sn)) :
    MetFree l own_y35 (head1 (Jvm.Cond.code own_y35 prog_57_method_5_code 6 (some .long) :: ws) ({ frames := 0, cells := 0, slots := 0, locals := 0 } : Room)) (fun a U => a = #[(.ref th), (.ref pk), (.long lm)] ∧ Z.Warmed39 U.vm ∧ U.heap = h0) (fun _ _ _ _ _ => True) (fun _ U o U' => ∃ v L, o = .returned v ∧ (own_ff_Q Z th pk lm dn sn h0 n0) v U'.heap L ∧ FrameEnd U o U' L ({ frames := 0, cells := 0, slots := 0, locals := 0 } : Room).cells ({ frames := 0, cells := 0, slots := 0, locals := 0 } : Room).slots) := by
  refine MetFree.of_bodySF (plainFor_of_name own_ff_pn) hisR ?_
  intro p e s m args below meth c s₁ Bd hml0 hP hK
  obtain ⟨rfl, hZ, hh⟩ := hP
  have hx := Bd.exec
  have hby := Bd.bytes
  have hml : c.maxLocals = 6 := hml0
  have hown : s.vm.findClass "com/example/sluicegate/sluicegate/rule/PacedValues" = some m.cls := findClass_of_methodNamed Bd.named
  have hnm := (name_of_methodNamed Bd.named Bd.method).1
  have hlk : meth.locks = false := Bd.notSynchronized
  have X0 : Stand p l e ({ frames := 0, cells := 0, slots := 0, locals := 0 } : Room) s m #[(.ref th), (.ref pk), (.long lm)] below meth c s₁ [] 0 0 := Stand.of_body Bd
  have e0 : s₁.heap = h0 := by rw [← hh, Bd.state]; rfl
  have N0 := Fr.nil n0
  have w_207 := hw _ (List.mem_of_getElem? (l := tables_1) (i := 207) rfl)
  have w_241 := hw _ (List.mem_of_getElem? (l := tables_1) (i := 241) rfl)
  have w_306 := hw _ (List.mem_of_getElem? (l := tables_1) (i := 306) rfl)
  have w_307 := hw _ (List.mem_of_getElem? (l := tables_1) (i := 307) rfl)
  have w_308 := hw _ (List.mem_of_getElem? (l := tables_1) (i := 308) rfl)
  show own_G p.tables e below (fun o U' => ∃ v L, o = .returned v ∧ (own_ff_Q Z th pk lm dn sn h0 n0) v U'.heap L ∧ FrameEnd s o U' L ({ frames := 0, cells := 0, slots := 0, locals := 0 } : Room).cells ({ frames := 0, cells := 0, slots := 0, locals := 0 } : Room).slots) (s₁.setTop (entryFrame m #[(.ref th), (.ref pk), (.long lm)] 6))
  refine own_go (B := s₁.setTop (mkF m 0 #[rv th, rv pk, .val (.long lm), .second, .unset, .unset] [])) (fun t k => castTop (own_ff_ef m th pk lm) k) ?_
  refine own_go (B := (s₁.setTop (mkF m 1 #[rv th, rv pk, .val (.long lm), .second, .unset, .unset] [(.ref pk)]))) (fun t k => XS.aloadN X0.here hx rfl (hb hby own_ff_d0) rfl rfl k) ?_
  obtain ⟨T1, X1, e1, st1⟩ := castY X0 hx hZ hown w_241 e0 (Ins.of_exa E1 w_306) (g := (mkF m 1 #[rv th, rv pk, .val (.long lm), .second, .unset, .unset] [(.ref pk)])) rfl rfl (hb hby own_ff_d1)
  refine own_go (B := (T1.setTop (mkF m 4 #[rv th, rv pk, .val (.long lm), .second, .unset, .unset] [(.ref pk)]))) st1 ?_
  refine own_go (B := (T1.setTop (mkF m 7 #[rv th, rv pk, .val (.long lm), .second, .unset, .unset] [(.long sn)]))) (own_getFR X1 hx hZ hown w_307 e1 F1 (g := (mkF m 4 #[rv th, rv pk, .val (.long lm), .second, .unset, .unset] [(.ref pk)])) rfl rfl (hb hby own_ff_d4)) ?_
  refine own_go (B := (T1.setTop (mkF m 9 #[rv th, rv pk, .val (.long lm), .second, .val (.long sn), .second] []))) (fun t k => XS.lstore X1.here hx rfl (hb hby own_ff_d7) rfl (l' := #[rv th, rv pk, .val (.long lm), .second, .val (.long sn), .second]) rfl k) ?_
  refine own_go (B := (T1.setTop (mkF m 11 #[rv th, rv pk, .val (.long lm), .second, .val (.long sn), .second] [(.long sn)]))) (fun t k => XS.lload X1.here hx rfl (hb hby own_ff_d9) rfl k) ?_
  have lc2 := X1.ldc2Long hx hown (v := (9223372036854775807 : Int64)) (mvT hZ w_308) (g := (mkF m 11 #[rv th, rv pk, .val (.long lm), .second, .val (.long sn), .second] [(.long sn)])) rfl (hb hby own_ff_d11)
  refine own_go (B := (T1.setTop (mkF m 14 #[rv th, rv pk, .val (.long lm), .second, .val (.long sn), .second] [(.long (9223372036854775807 : Int64)), (.long sn)]))) lc2 ?_
  refine own_go (B := (T1.setTop (mkF m 15 #[rv th, rv pk, .val (.long lm), .second, .val (.long sn), .second] [(.ref th), (.long (9223372036854775807 : Int64)), (.long sn)]))) (fun t k => XS.aloadN X1.here hx rfl (hb hby own_ff_d14) rfl rfl k) ?_
  obtain ⟨T3, X3, e3, st3⟩ := getF X1 hx hZ hown (host := "") (Or.inl w_207) Via.refl e1 F0 (g := (mkF m 15 #[rv th, rv pk, .val (.long lm), .second, .val (.long sn), .second] [(.ref th), (.long (9223372036854775807 : Int64)), (.long sn)])) rfl rfl (hb hby own_ff_d15)
  refine own_go (B := (T3.setTop (mkF m 18 #[rv th, rv pk, .val (.long lm), .second, .val (.long sn), .second] [(.long dn), (.long (9223372036854775807 : Int64)), (.long sn)]))) st3 ?_
  refine own_go (B := (T3.setTop (mkF m 19 #[rv th, rv pk, .val (.long lm), .second, .val (.long sn), .second] [(.long ((9223372036854775807 : Int64) - dn)), (.long sn)]))) (fun t k => XS.lsub (x := (9223372036854775807 : Int64)) (y := dn) X3.here hx rfl (hb hby own_ff_d18) rfl k) ?_
  refine own_go (B := (T3.setTop (mkF m 20 #[rv th, rv pk, .val (.long lm), .second, .val (.long sn), .second] [(.int (lcmpW sn ((9223372036854775807 : Int64) - dn)))]))) (fun t k => XS.lcmp (x := sn) (y := ((9223372036854775807 : Int64) - dn)) X3.here hx rfl (hb hby own_ff_d19) rfl k) ?_
  refine own_lif X3 hx (hb hby own_ff_d20) (pc' := 29) (pn := 23) (by decide) (by decide) rfl (fun (hc20 : ¬ ((9223372036854775807 : Int64) - dn) < sn) => ?_) (fun (hc20 : ((9223372036854775807 : Int64) - dn) < sn) => ?_)
  · refine own_go (B := (T3.setTop (mkF m 31 #[rv th, rv pk, .val (.long lm), .second, .val (.long sn), .second] [(.long sn)]))) (fun t k => XS.lload X3.here hx rfl (hb hby own_ff_d29) rfl k) ?_
    refine own_go (B := (T3.setTop (mkF m 32 #[rv th, rv pk, .val (.long lm), .second, .val (.long sn), .second] [(.ref th), (.long sn)]))) (fun t k => XS.aloadN X3.here hx rfl (hb hby own_ff_d31) rfl rfl k) ?_
    obtain ⟨T4, X4, e4, st4⟩ := getF X3 hx hZ hown (host := "") (Or.inl w_207) Via.refl e3 F0 (g := (mkF m 32 #[rv th, rv pk, .val (.long lm), .second, .val (.long sn), .second] [(.ref th), (.long sn)])) rfl rfl (hb hby own_ff_d32)
    refine own_go (B := (T4.setTop (mkF m 35 #[rv th, rv pk, .val (.long lm), .second, .val (.long sn), .second] [(.long dn), (.long sn)]))) st4 ?_
    refine own_go (B := (T4.setTop (mkF m 36 #[rv th, rv pk, .val (.long lm), .second, .val (.long sn), .second] [(.long (sn + dn))]))) (fun t k => XS.ladd (x := sn) (y := dn) X4.here hx rfl (hb hby own_ff_d35) rfl k) ?_
    exact own_retL X4 hx hlk Bd.returns (hb hby own_ff_d36) (own_b rfl) (own_b rfl) (Q := (own_ff_Q Z th pk lm dn sn h0 n0)) ⟨by rw [own_fresh, if_neg hc20], N0, e4⟩
  · have lc5 := X3.ldc2Long hx hown (v := (9223372036854775807 : Int64)) (mvT hZ w_308) (g := (mkF m 23 #[rv th, rv pk, .val (.long lm), .second, .val (.long sn), .second] [])) rfl (hb hby own_ff_d23)
    refine own_go (B := (T3.setTop (mkF m 26 #[rv th, rv pk, .val (.long lm), .second, .val (.long sn), .second] [(.long (9223372036854775807 : Int64))]))) lc5 ?_
    refine own_go (B := (T3.setTop (mkF m 36 #[rv th, rv pk, .val (.long lm), .second, .val (.long sn), .second] [(.long (9223372036854775807 : Int64))]))) (fun t k => XS.goto X3.here hx rfl (pc0 := 26) (pc' := 36) rfl (hb hby own_ff_d26) (by decide) (by decide) k) ?_
    exact own_retL X3 hx hlk Bd.returns (hb hby own_ff_d36) (own_b rfl) (own_b rfl) (Q := (own_ff_Q Z th pk lm dn sn h0 n0)) ⟨by rw [own_fresh, if_pos hc20], N0, e3⟩

theorem own_law_pn : plainName "com/example/sluicegate/sluicegate/rule/PacedValuesFreshFromPinLaw" = true := by first | (simp [plainName, overriddenIn]; done) | decide +kernel
theorem own_law_ef (m : MethodId) (p0 : Int64) (p1 : Int64) (p2 : Int32) (p3 : Int32) (p4 : Int64) (p5 : Int32) : entryFrame m #[(.long p0), (.long p1), (.int p2), (.int p3), (.long p4), (.int p5)] maxLocals = mkF m 0 #[.val (.long p0), .second, .val (.long p1), .second, iv p2, iv p3, .val (.long p4), .second, iv p5, .unset, .unset, .unset, .unset, .unset, .unset, .unset, .unset, .unset, .unset, .unset, .unset, .unset, .unset, .unset, .unset, .unset, .unset, .unset, .unset] [] := by first | (simp [entryFrame, mkF, argsToLocals, Value.category, maxLocals]; done) | rfl
def own_law_Q (Z : State) (p0 : Int64) (p1 : Int64) (p2 : Int32) (p3 : Int32) (p4 : Int64) (p5 : Int32) (ac ae ab ap am aSec aMil cg : Addr) (h0 : Heap) (n0 : Nat) (v : Option Value) (h : Heap) (L : List Loc) : Prop := v = some (.int 1) ∧ Fr n0 L
set_option maxRecDepth 65536 in
set_option maxHeartbeats 40000000 in
theorem own_law (l : Launch) (Z : State) (a0 : Array Value) (hw : ∀ d ∈ tables_1, d.before a0 Z = true) (ws : List Jvm.Cond) (p0 : Int64) (p1 : Int64) (p2 : Int32) (p3 : Int32) (p4 : Int64) (p5 : Int32) (ac ae ab ap am aSec aMil cg : Addr) (h0 : Heap) (n0 : Nat) (Z0 : n0 ≤ h0.size) (B0 : Sta Z h0 "com/example/sluicegate/sluicegate/rule/HotParameterRule$Counts" "PERMITS" "Lcom/example/sluicegate/sluicegate/rule/HotParameterRule$Counts;" (.ref ac)) (B1 : Sta Z h0 "com/example/sluicegate/sluicegate/rule/HotParameterRule$Counts" "ENTRIES" "Lcom/example/sluicegate/sluicegate/rule/HotParameterRule$Counts;" (.ref ae)) (B2 : Sta Z h0 "com/example/sluicegate/sluicegate/rule/HotParameterRule$Behaviour" "FAST_FAIL" "Lcom/example/sluicegate/sluicegate/rule/HotParameterRule$Behaviour;" (.ref ab)) (B3 : Sta Z h0 "com/example/sluicegate/sluicegate/rule/HotParameterRule$Behaviour" "UNIFORM_QUEUEING" "Lcom/example/sluicegate/sluicegate/rule/HotParameterRule$Behaviour;" (.ref ap)) (B4 : Sta Z h0 "java/util/ImmutableCollections" "EMPTY_MAP" "Ljava/util/ImmutableCollections$MapN;" (.ref am)) (B5 : Sta Z h0 "com/example/sluicegate/sluicegate/rule/ValueShards" "SHARDS" "I" (.int (16 : Int32))) (B6 : Sta Z h0 "java/util/concurrent/TimeUnit" "SECONDS" "Ljava/util/concurrent/TimeUnit;" (.ref aSec)) (B7 : Exa Z h0 aSec "java/util/concurrent/TimeUnit") (B8 : Fld Z h0 aSec "java/util/concurrent/TimeUnit" "scale" "J" (.long (1000000000 : Int64))) (B9 : Fld Z h0 aSec "java/util/concurrent/TimeUnit" "maxNanos" "J" (.long (9223372036 : Int64))) (B10 : Fld Z h0 aSec "java/util/concurrent/TimeUnit" "maxMillis" "J" (.long (9223372036854775 : Int64))) (B11 : Fld Z h0 aSec "java/util/concurrent/TimeUnit" "milliRatio" "I" (.int (1000 : Int32))) (B12 : Sta Z h0 "java/util/concurrent/TimeUnit" "MILLISECONDS" "Ljava/util/concurrent/TimeUnit;" (.ref aMil)) (B13 : Exa Z h0 aMil "java/util/concurrent/TimeUnit") (B14 : Fld Z h0 aMil "java/util/concurrent/TimeUnit" "scale" "J" (.long (1000000 : Int64))) (B15 : Fld Z h0 aMil "java/util/concurrent/TimeUnit" "maxNanos" "J" (.long (9223372036854 : Int64))) (B16 : Sta Z h0 "java/math/RoundingMode" "CEILING" "Ljava/math/RoundingMode;" (.ref cg)) (hne : ac ≠ ae) (oas : aSec < n0) (oat : aMil < n0) :
    MetFree l x (head1 (Jvm.Cond.code x code maxLocals ret :: ws) room_1) (fun a U => a = #[(.long p0), (.long p1), (.int p2), (.int p3), (.long p4), (.int p5)] ∧ Z.Warmed39 U.vm ∧ U.heap = h0) (fun _ _ _ _ _ => True) (fun _ U o U' => ∃ v L, o = .returned v ∧ (own_law_Q Z p0 p1 p2 p3 p4 p5 ac ae ab ap am aSec aMil cg h0 n0) v U'.heap L ∧ ReturnedEndW U o U' L 136 3840) := by
  refine MetFree.of_bodySF (plainFor_of_name own_law_pn) hisR ?_
  intro p e s m args below meth c s₁ Bd hml0 hP hK
  obtain ⟨rfl, hZ, hh⟩ := hP
  have hx := Bd.exec
  have hby := Bd.bytes
  have hml : c.maxLocals = 29 := hml0
  have hown : s.vm.findClass "com/example/sluicegate/sluicegate/rule/PacedValuesFreshFromPinLaw" = some m.cls := findClass_of_methodNamed Bd.named
  have hnm := (name_of_methodNamed Bd.named Bd.method).1
  have hlk : meth.locks = false := Bd.notSynchronized
  have X0 : Stand p l e room_1 (s.setVm s.vm) m #[(.long p0), (.long p1), (.int p2), (.int p3), (.long p4), (.int p5)] below meth c s₁ [] 0 0 := Stand.of_body Bd
  have hS0 : s.Since s.vm 0 := own_since0 s 0
  have hk0 : 0 ≤ h0.size := Nat.zero_le _
  have hws := own_hws hw
  have e0 : s₁.heap = h0 := by rw [← hh, Bd.state]; rfl
  have N0 := Fr.nil n0
  have w_0 := hw _ (List.mem_of_getElem? (l := tables_1) (i := 0) rfl)
  have w_1 := hw _ (List.mem_of_getElem? (l := tables_1) (i := 1) rfl)
  have w_2 := hw _ (List.mem_of_getElem? (l := tables_1) (i := 2) rfl)
  have w_3 := hw _ (List.mem_of_getElem? (l := tables_1) (i := 3) rfl)
  have w_4 := hw _ (List.mem_of_getElem? (l := tables_1) (i := 4) rfl)
  have w_5 := hw _ (List.mem_of_getElem? (l := tables_1) (i := 5) rfl)
  have w_6 := hw _ (List.mem_of_getElem? (l := tables_1) (i := 6) rfl)
  have w_7 := hw _ (List.mem_of_getElem? (l := tables_1) (i := 7) rfl)
  have w_8 := hw _ (List.mem_of_getElem? (l := tables_1) (i := 8) rfl)
  have w_9 := hw _ (List.mem_of_getElem? (l := tables_1) (i := 9) rfl)
  have w_10 := hw _ (List.mem_of_getElem? (l := tables_1) (i := 10) rfl)
  have w_11 := hw _ (List.mem_of_getElem? (l := tables_1) (i := 11) rfl)
  have w_19 := hw _ (List.mem_of_getElem? (l := tables_1) (i := 19) rfl)
  have w_20 := hw _ (List.mem_of_getElem? (l := tables_1) (i := 20) rfl)
  have w_21 := hw _ (List.mem_of_getElem? (l := tables_1) (i := 21) rfl)
  have w_48 := hw _ (List.mem_of_getElem? (l := tables_1) (i := 48) rfl)
  have w_50 := hw _ (List.mem_of_getElem? (l := tables_1) (i := 50) rfl)
  have w_52 := hw _ (List.mem_of_getElem? (l := tables_1) (i := 52) rfl)
  have w_54 := hw _ (List.mem_of_getElem? (l := tables_1) (i := 54) rfl)
  have w_56 := hw _ (List.mem_of_getElem? (l := tables_1) (i := 56) rfl)
  have w_58 := hw _ (List.mem_of_getElem? (l := tables_1) (i := 58) rfl)
  have w_60 := hw _ (List.mem_of_getElem? (l := tables_1) (i := 60) rfl)
  have w_62 := hw _ (List.mem_of_getElem? (l := tables_1) (i := 62) rfl)
  have w_64 := hw _ (List.mem_of_getElem? (l := tables_1) (i := 64) rfl)
  have w_65 := hw _ (List.mem_of_getElem? (l := tables_1) (i := 65) rfl)
  have w_66 := hw _ (List.mem_of_getElem? (l := tables_1) (i := 66) rfl)
  have w_67 := hw _ (List.mem_of_getElem? (l := tables_1) (i := 67) rfl)
  have w_68 := hw _ (List.mem_of_getElem? (l := tables_1) (i := 68) rfl)
  have w_69 := hw _ (List.mem_of_getElem? (l := tables_1) (i := 69) rfl)
  have w_71 := hw _ (List.mem_of_getElem? (l := tables_1) (i := 71) rfl)
  have w_72 := hw _ (List.mem_of_getElem? (l := tables_1) (i := 72) rfl)
  have w_73 := hw _ (List.mem_of_getElem? (l := tables_1) (i := 73) rfl)
  have w_74 := hw _ (List.mem_of_getElem? (l := tables_1) (i := 74) rfl)
  have w_75 := hw _ (List.mem_of_getElem? (l := tables_1) (i := 75) rfl)
  have w_78 := hw _ (List.mem_of_getElem? (l := tables_1) (i := 78) rfl)
  have w_79 := hw _ (List.mem_of_getElem? (l := tables_1) (i := 79) rfl)
  have w_80 := hw _ (List.mem_of_getElem? (l := tables_1) (i := 80) rfl)
  have w_81 := hw _ (List.mem_of_getElem? (l := tables_1) (i := 81) rfl)
  have w_82 := hw _ (List.mem_of_getElem? (l := tables_1) (i := 82) rfl)
  have w_83 := hw _ (List.mem_of_getElem? (l := tables_1) (i := 83) rfl)
  have w_145 := hw _ (List.mem_of_getElem? (l := tables_1) (i := 145) rfl)
  have w_160 := hw _ (List.mem_of_getElem? (l := tables_1) (i := 160) rfl)
  have w_170 := hw _ (List.mem_of_getElem? (l := tables_1) (i := 170) rfl)
  have w_172 := hw _ (List.mem_of_getElem? (l := tables_1) (i := 172) rfl)
  have w_193 := hw _ (List.mem_of_getElem? (l := tables_1) (i := 193) rfl)
  have w_197 := hw _ (List.mem_of_getElem? (l := tables_1) (i := 197) rfl)
  have w_208 := hw _ (List.mem_of_getElem? (l := tables_1) (i := 208) rfl)
  have w_216 := hw _ (List.mem_of_getElem? (l := tables_1) (i := 216) rfl)
  have w_217 := hw _ (List.mem_of_getElem? (l := tables_1) (i := 217) rfl)
  have w_218 := hw _ (List.mem_of_getElem? (l := tables_1) (i := 218) rfl)
  have w_219 := hw _ (List.mem_of_getElem? (l := tables_1) (i := 219) rfl)
  have w_220 := hw _ (List.mem_of_getElem? (l := tables_1) (i := 220) rfl)
  have w_221 := hw _ (List.mem_of_getElem? (l := tables_1) (i := 221) rfl)
  have w_222 := hw _ (List.mem_of_getElem? (l := tables_1) (i := 222) rfl)
  have w_225 := hw _ (List.mem_of_getElem? (l := tables_1) (i := 225) rfl)
  have w_226 := hw _ (List.mem_of_getElem? (l := tables_1) (i := 226) rfl)
  have w_227 := hw _ (List.mem_of_getElem? (l := tables_1) (i := 227) rfl)
  have w_228 := hw _ (List.mem_of_getElem? (l := tables_1) (i := 228) rfl)
  have w_229 := hw _ (List.mem_of_getElem? (l := tables_1) (i := 229) rfl)
  have w_230 := hw _ (List.mem_of_getElem? (l := tables_1) (i := 230) rfl)
  have w_232 := hw _ (List.mem_of_getElem? (l := tables_1) (i := 232) rfl)
  have w_236 := hw _ (List.mem_of_getElem? (l := tables_1) (i := 236) rfl)
  have w_237 := hw _ (List.mem_of_getElem? (l := tables_1) (i := 237) rfl)
  have w_238 := hw _ (List.mem_of_getElem? (l := tables_1) (i := 238) rfl)
  have w_239 := hw _ (List.mem_of_getElem? (l := tables_1) (i := 239) rfl)
  have w_240 := hw _ (List.mem_of_getElem? (l := tables_1) (i := 240) rfl)
  have w_301 := hw _ (List.mem_of_getElem? (l := tables_1) (i := 301) rfl)
  have w_302 := hw _ (List.mem_of_getElem? (l := tables_1) (i := 302) rfl)
  have w_303 := hw _ (List.mem_of_getElem? (l := tables_1) (i := 303) rfl)
  have w_304 := hw _ (List.mem_of_getElem? (l := tables_1) (i := 304) rfl)
  have w_305 := hw _ (List.mem_of_getElem? (l := tables_1) (i := 305) rfl)
  have w_309 := hw _ (List.mem_of_getElem? (l := tables_1) (i := 309) rfl)
  show own_G p.tables e below (fun o U' => ∃ v L, o = .returned v ∧ (own_law_Q Z p0 p1 p2 p3 p4 p5 ac ae ab ap am aSec aMil cg h0 n0) v U'.heap L ∧ ReturnedEndW s o U' L 136 3840) (s₁.setTop (entryFrame m #[(.long p0), (.long p1), (.int p2), (.int p3), (.long p4), (.int p5)] maxLocals))
  refine own_go (B := s₁.setTop (mkF m 0 #[.val (.long p0), .second, .val (.long p1), .second, iv p2, iv p3, .val (.long p4), .second, iv p5, .unset, .unset, .unset, .unset, .unset, .unset, .unset, .unset, .unset, .unset, .unset, .unset, .unset, .unset, .unset, .unset, .unset, .unset, .unset, .unset] [])) (fun t k => castTop (own_law_ef m p0 p1 p2 p3 p4 p5) k) ?_
  have K0 := Keep.refl h0 []
  refine own_go (B := (s₁.setTop (mkF m 1 #[.val (.long p0), .second, .val (.long p1), .second, iv p2, iv p3, .val (.long p4), .second, iv p5, .unset, .unset, .unset, .unset, .unset, .unset, .unset, .unset, .unset, .unset, .unset, .unset, .unset, .unset, .unset, .unset, .unset, .unset, .unset, .unset] [(.int (1 : Int32))]))) (fun t k => own_iconst (v := (1 : Int32)) X0.here hx rfl (hb hby at_0) (by decide) k) ?_
  refine own_go (B := (s₁.setTop (mkF m 3 #[.val (.long p0), .second, .val (.long p1), .second, iv p2, iv p3, .val (.long p4), .second, iv p5, .unset, .unset, .unset, .unset, .unset, .unset, .unset, .unset, .unset, .unset, .unset, .unset, .unset, .unset, .unset, .unset, .unset, .unset, .unset, .unset] [(.int p2), (.int (1 : Int32))]))) (fun t k => XS.iload X0.here hx rfl (hb hby at_1) rfl k) ?_
  have lc1 := X0.ldcInt hx hown (v := (2147483647 : Int32)) (mvT hZ w_0) (g := (mkF m 3 #[.val (.long p0), .second, .val (.long p1), .second, iv p2, iv p3, .val (.long p4), .second, iv p5, .unset, .unset, .unset, .unset, .unset, .unset, .unset, .unset, .unset, .unset, .unset, .unset, .unset, .unset, .unset, .unset, .unset, .unset, .unset, .unset] [(.int p2), (.int (1 : Int32))])) rfl (hb hby at_3)
  refine own_go (B := (s₁.setTop (mkF m 5 #[.val (.long p0), .second, .val (.long p1), .second, iv p2, iv p3, .val (.long p4), .second, iv p5, .unset, .unset, .unset, .unset, .unset, .unset, .unset, .unset, .unset, .unset, .unset, .unset, .unset, .unset, .unset, .unset, .unset, .unset, .unset, .unset] [(.int (2147483647 : Int32)), (.int p2), (.int (1 : Int32))]))) lc1 ?_
  refine own_go (B := (s₁.setTop (mkF m 6 #[.val (.long p0), .second, .val (.long p1), .second, iv p2, iv p3, .val (.long p4), .second, iv p5, .unset, .unset, .unset, .unset, .unset, .unset, .unset, .unset, .unset, .unset, .unset, .unset, .unset, .unset, .unset, .unset, .unset, .unset, .unset, .unset] [(.int (p2 &&& (2147483647 : Int32))), (.int (1 : Int32))]))) (fun t k => XS.iand (x := p2) (y := (2147483647 : Int32)) X0.here hx rfl (hb hby at_5) rfl k) ?_
  obtain ⟨_, _, ⟨T2, L2, k2, n2⟩, -, X2, ⟨Lc2, hQ2, l2, yy2, zz2⟩, st2⟩ := Jvm.LawKit.callS X0 hx (y := own_y27) hown (mvT hZ w_1) (mvT hZ w_2) (mvT hZ w_3) (mvT hZ w_4) (by decide) (backOf (W := 0) (own_mmax l Z a0 hw [] (1 : Int32) (p2 &&& (2147483647 : Int32)) h0 n0) hZ w_4 w_3 (by decide) (by decide)) (g := (mkF m 6 #[.val (.long p0), .second, .val (.long p1), .second, iv p2, iv p3, .val (.long p4), .second, iv p5, .unset, .unset, .unset, .unset, .unset, .unset, .unset, .unset, .unset, .unset, .unset, .unset, .unset, .unset, .unset, .unset, .unset, .unset, .unset, .unset] [(.int (p2 &&& (2147483647 : Int32))), (.int (1 : Int32))])) rfl (by rw [hml]; rfl) (argsL := [(.int (1 : Int32)), (.int (p2 &&& (2147483647 : Int32)))]) (rest := []) (lenOf own_pd15 rfl) rfl (by show 2 * 0 + _ ≤ _; exact own_b rfl) (hb hby at_6) (fun _ _ => ⟨rfl, e0, (own_b rfl : 0 + 0 ≤ _), (own_b rfl : 0 + 0 ≤ _)⟩)
  dsimp only [Pt.U, Pt.locs, Pt.cells, Pt.slots] at X2 l2 yy2 zz2 st2 hQ2
  obtain ⟨rfl, Nq2, eq2⟩ := hQ2
  obtain ⟨L2, X2, N2⟩ := own_absC (K := 0) (K' := 0) X2 l2 yy2 zz2 N0 Nq2
  have e2 : T2.heap = h0 := eq2
  refine own_go (B := (T2.setTop (mkF m 9 #[.val (.long p0), .second, .val (.long p1), .second, iv p2, iv p3, .val (.long p4), .second, iv p5, .unset, .unset, .unset, .unset, .unset, .unset, .unset, .unset, .unset, .unset, .unset, .unset, .unset, .unset, .unset, .unset, .unset, .unset, .unset, .unset] [(.int (own_max (1 : Int32) (p2 &&& (2147483647 : Int32))))]))) st2 ?_
  obtain ⟨z9, hz9⟩ : ∃ z : Int32, z = (own_max (1 : Int32) (p2 &&& (2147483647 : Int32))) := ⟨_, rfl⟩
  rw [← hz9]
  refine own_go (B := (T2.setTop (mkF m 11 #[.val (.long p0), .second, .val (.long p1), .second, iv p2, iv p3, .val (.long p4), .second, iv p5, iv z9, .unset, .unset, .unset, .unset, .unset, .unset, .unset, .unset, .unset, .unset, .unset, .unset, .unset, .unset, .unset, .unset, .unset, .unset, .unset] []))) (fun t k => XS.istore X2.here hx rfl (hb hby at_9) rfl (l' := #[.val (.long p0), .second, .val (.long p1), .second, iv p2, iv p3, .val (.long p4), .second, iv p5, iv z9, .unset, .unset, .unset, .unset, .unset, .unset, .unset, .unset, .unset, .unset, .unset, .unset, .unset, .unset, .unset, .unset, .unset, .unset, .unset]) rfl k) ?_
  have hpd : ¬ z9 < (1 : Int32) := by rw [hz9]; exact own_dge p2
  have hdu := hpd
  refine own_go (B := (T2.setTop (mkF m 12 #[.val (.long p0), .second, .val (.long p1), .second, iv p2, iv p3, .val (.long p4), .second, iv p5, iv z9, .unset, .unset, .unset, .unset, .unset, .unset, .unset, .unset, .unset, .unset, .unset, .unset, .unset, .unset, .unset, .unset, .unset, .unset, .unset] [(.long (1 : Int64))]))) (fun t k => XS.lconst X2.here hx rfl (hb hby at_11) k) ?_
  refine own_go (B := (T2.setTop (mkF m 14 #[.val (.long p0), .second, .val (.long p1), .second, iv p2, iv p3, .val (.long p4), .second, iv p5, iv z9, .unset, .unset, .unset, .unset, .unset, .unset, .unset, .unset, .unset, .unset, .unset, .unset, .unset, .unset, .unset, .unset, .unset, .unset, .unset] [(.int p3), (.long (1 : Int64))]))) (fun t k => XS.iload X2.here hx rfl (hb hby at_12) rfl k) ?_
  refine own_go (B := (T2.setTop (mkF m 15 #[.val (.long p0), .second, .val (.long p1), .second, iv p2, iv p3, .val (.long p4), .second, iv p5, iv z9, .unset, .unset, .unset, .unset, .unset, .unset, .unset, .unset, .unset, .unset, .unset, .unset, .unset, .unset, .unset, .unset, .unset, .unset, .unset] [(.long (p3.toInt64)), (.long (1 : Int64))]))) (fun t k => XS.i2l X2.here hx rfl (hb hby at_14) rfl k) ?_
  have lc3 := X2.ldc2Long hx hown (v := (2147483647 : Int64)) (mvT hZ w_5) (g := (mkF m 15 #[.val (.long p0), .second, .val (.long p1), .second, iv p2, iv p3, .val (.long p4), .second, iv p5, iv z9, .unset, .unset, .unset, .unset, .unset, .unset, .unset, .unset, .unset, .unset, .unset, .unset, .unset, .unset, .unset, .unset, .unset, .unset, .unset] [(.long (p3.toInt64)), (.long (1 : Int64))])) rfl (hb hby at_15)
  refine own_go (B := (T2.setTop (mkF m 18 #[.val (.long p0), .second, .val (.long p1), .second, iv p2, iv p3, .val (.long p4), .second, iv p5, iv z9, .unset, .unset, .unset, .unset, .unset, .unset, .unset, .unset, .unset, .unset, .unset, .unset, .unset, .unset, .unset, .unset, .unset, .unset, .unset] [(.long (2147483647 : Int64)), (.long (p3.toInt64)), (.long (1 : Int64))]))) lc3 ?_
  refine own_go (B := (T2.setTop (mkF m 19 #[.val (.long p0), .second, .val (.long p1), .second, iv p2, iv p3, .val (.long p4), .second, iv p5, iv z9, .unset, .unset, .unset, .unset, .unset, .unset, .unset, .unset, .unset, .unset, .unset, .unset, .unset, .unset, .unset, .unset, .unset, .unset, .unset] [(.long ((p3.toInt64) &&& (2147483647 : Int64))), (.long (1 : Int64))]))) (fun t k => XS.land (x := (p3.toInt64)) (y := (2147483647 : Int64)) X2.here hx rfl (hb hby at_18) rfl k) ?_
  refine own_go (B := (T2.setTop (mkF m 20 #[.val (.long p0), .second, .val (.long p1), .second, iv p2, iv p3, .val (.long p4), .second, iv p5, iv z9, .unset, .unset, .unset, .unset, .unset, .unset, .unset, .unset, .unset, .unset, .unset, .unset, .unset, .unset, .unset, .unset, .unset, .unset, .unset] [(.long ((1 : Int64) + ((p3.toInt64) &&& (2147483647 : Int64))))]))) (fun t k => XS.ladd (x := (1 : Int64)) (y := ((p3.toInt64) &&& (2147483647 : Int64))) X2.here hx rfl (hb hby at_19) rfl k) ?_
  obtain ⟨z20, hz20⟩ : ∃ z : Int64, z = ((1 : Int64) + ((p3.toInt64) &&& (2147483647 : Int64))) := ⟨_, rfl⟩
  rw [← hz20]
  refine own_go (B := (T2.setTop (mkF m 22 #[.val (.long p0), .second, .val (.long p1), .second, iv p2, iv p3, .val (.long p4), .second, iv p5, iv z9, .val (.long z20), .second, .unset, .unset, .unset, .unset, .unset, .unset, .unset, .unset, .unset, .unset, .unset, .unset, .unset, .unset, .unset, .unset, .unset] []))) (fun t k => XS.lstore X2.here hx rfl (hb hby at_20) rfl (l' := #[.val (.long p0), .second, .val (.long p1), .second, iv p2, iv p3, .val (.long p4), .second, iv p5, iv z9, .val (.long z20), .second, .unset, .unset, .unset, .unset, .unset, .unset, .unset, .unset, .unset, .unset, .unset, .unset, .unset, .unset, .unset, .unset, .unset]) rfl k) ?_
  have hlm : ¬ z20 = (0 : Int64) := by rw [hz20]; exact own_lne p3
  have J42 : ∀ (fv : Int64), own_G p.tables e below (fun o U' => ∃ v L, o = .returned v ∧ (own_law_Q Z p0 p1 p2 p3 p4 p5 ac ae ab ap am aSec aMil cg h0 n0) v U'.heap L ∧ ReturnedEndW s o U' L 136 3840) (T2.setTop (mkF m 42 #[.val (.long p0), .second, .val (.long p1), .second, iv p2, iv p3, .val (.long p4), .second, iv p5, iv z9, .val (.long z20), .second, .unset, .unset, .unset, .unset, .unset, .unset, .unset, .unset, .unset, .unset, .unset, .unset, .unset, .unset, .unset, .unset, .unset] [(.long fv)])) := by
    intro fv
    refine own_go (B := (T2.setTop (mkF m 44 #[.val (.long p0), .second, .val (.long p1), .second, iv p2, iv p3, .val (.long p4), .second, iv p5, iv z9, .val (.long z20), .second, .val (.long fv), .second, .unset, .unset, .unset, .unset, .unset, .unset, .unset, .unset, .unset, .unset, .unset, .unset, .unset, .unset, .unset] []))) (fun t k => XS.lstore X2.here hx rfl (hb hby at_42) rfl (l' := #[.val (.long p0), .second, .val (.long p1), .second, iv p2, iv p3, .val (.long p4), .second, iv p5, iv z9, .val (.long z20), .second, .val (.long fv), .second, .unset, .unset, .unset, .unset, .unset, .unset, .unset, .unset, .unset, .unset, .unset, .unset, .unset, .unset, .unset]) rfl k) ?_
    have J60 : ∀ (wv : Int64) (hwv : ¬ wv < (0 : Int64)), own_G p.tables e below (fun o U' => ∃ v L, o = .returned v ∧ (own_law_Q Z p0 p1 p2 p3 p4 p5 ac ae ab ap am aSec aMil cg h0 n0) v U'.heap L ∧ ReturnedEndW s o U' L 136 3840) (T2.setTop (mkF m 60 #[.val (.long p0), .second, .val (.long p1), .second, iv p2, iv p3, .val (.long p4), .second, iv p5, iv z9, .val (.long z20), .second, .val (.long fv), .second, .unset, .unset, .unset, .unset, .unset, .unset, .unset, .unset, .unset, .unset, .unset, .unset, .unset, .unset, .unset] [(.long wv)])) := by
      intro wv hwv
      refine own_go (B := (T2.setTop (mkF m 62 #[.val (.long p0), .second, .val (.long p1), .second, iv p2, iv p3, .val (.long p4), .second, iv p5, iv z9, .val (.long z20), .second, .val (.long fv), .second, .val (.long wv), .second, .unset, .unset, .unset, .unset, .unset, .unset, .unset, .unset, .unset, .unset, .unset, .unset, .unset] []))) (fun t k => XS.lstore X2.here hx rfl (hb hby at_60) rfl (l' := #[.val (.long p0), .second, .val (.long p1), .second, iv p2, iv p3, .val (.long p4), .second, iv p5, iv z9, .val (.long z20), .second, .val (.long fv), .second, .val (.long wv), .second, .unset, .unset, .unset, .unset, .unset, .unset, .unset, .unset, .unset, .unset, .unset, .unset, .unset]) rfl k) ?_
      obtain ⟨T4, h4, X4, e4, E4, A4, D4, U4, st4⟩ := newO X2 hx hZ hown w_8 w_9 w_10 e2 (g := (mkF m 62 #[.val (.long p0), .second, .val (.long p1), .second, iv p2, iv p3, .val (.long p4), .second, iv p5, iv z9, .val (.long z20), .second, .val (.long fv), .second, .val (.long wv), .second, .unset, .unset, .unset, .unset, .unset, .unset, .unset, .unset, .unset, .unset, .unset, .unset, .unset] [])) rfl (hb hby at_62) (own_b rfl) (own_b rfl)
      obtain ⟨a4, ga4⟩ : ∃ z, z = h0.size := ⟨_, rfl⟩
      rw [← ga4] at A4 D4 U4 st4
      refine own_go (B := (T4.setTop (mkF m 65 #[.val (.long p0), .second, .val (.long p1), .second, iv p2, iv p3, .val (.long p4), .second, iv p5, iv z9, .val (.long z20), .second, .val (.long fv), .second, .val (.long wv), .second, .unset, .unset, .unset, .unset, .unset, .unset, .unset, .unset, .unset, .unset, .unset, .unset, .unset] [(.ref a4)]))) st4 ?_
      have Z5 : 0 ≤ h4.size := Nat.le_trans hk0 E4.1
      have Z6 : n0 ≤ h4.size := Nat.le_trans Z0 E4.1
      have K7 := Keep.ext K0 E4
      have gn4 : n0 ≤ a4 := Nat.le_trans Z0 (Nat.le_of_eq ga4.symm)
      have F8 : Fld Z h4 a4 "com/example/sluicegate/sluicegate/rule/HotParameterRule" "resource" "Ljava/lang/String;" .null := D4 (Or.inr w_48) (ty := (.object "java/lang/String")) (by decide)
      have F9 : Fld Z h4 a4 "com/example/sluicegate/sluicegate/rule/HotParameterRule" "argumentIndex" "I" (.int (0 : Int32)) := D4 (Or.inr w_50) (ty := .int) (by decide)
      have F10 : Fld Z h4 a4 "com/example/sluicegate/sluicegate/rule/HotParameterRule" "count" "I" (.int (0 : Int32)) := D4 (Or.inr w_52) (ty := .int) (by decide)
      have F11 : Fld Z h4 a4 "com/example/sluicegate/sluicegate/rule/HotParameterRule" "counts" "Lcom/example/sluicegate/sluicegate/rule/HotParameterRule$Counts;" .null := D4 (Or.inr w_54) (ty := (.object "com/example/sluicegate/sluicegate/rule/HotParameterRule$Counts")) (by decide)
      have F12 : Fld Z h4 a4 "com/example/sluicegate/sluicegate/rule/HotParameterRule" "durationSeconds" "I" (.int (0 : Int32)) := D4 (Or.inr w_56) (ty := .int) (by decide)
      have F13 : Fld Z h4 a4 "com/example/sluicegate/sluicegate/rule/HotParameterRule" "burst" "I" (.int (0 : Int32)) := D4 (Or.inr w_58) (ty := .int) (by decide)
      have F14 : Fld Z h4 a4 "com/example/sluicegate/sluicegate/rule/HotParameterRule" "behaviour" "Lcom/example/sluicegate/sluicegate/rule/HotParameterRule$Behaviour;" .null := D4 (Or.inr w_60) (ty := (.object "com/example/sluicegate/sluicegate/rule/HotParameterRule$Behaviour")) (by decide)
      have F15 : Fld Z h4 a4 "com/example/sluicegate/sluicegate/rule/HotParameterRule" "maxQueueingMillis" "J" (.long (0 : Int64)) := D4 (Or.inr w_62) (ty := .long) (by decide)
      have F16 : Fld Z h4 a4 "com/example/sluicegate/sluicegate/rule/HotParameterRule" "valueCounts" "Ljava/util/Map;" .null := D4 (Or.inr w_64) (ty := (.object "java/util/Map")) (by decide)
      refine own_go (B := (T4.setTop (mkF m 66 #[.val (.long p0), .second, .val (.long p1), .second, iv p2, iv p3, .val (.long p4), .second, iv p5, iv z9, .val (.long z20), .second, .val (.long fv), .second, .val (.long wv), .second, .unset, .unset, .unset, .unset, .unset, .unset, .unset, .unset, .unset, .unset, .unset, .unset, .unset] [(.ref a4), (.ref a4)]))) (fun t k => XS.dup X4.here hx rfl (hb hby at_65) rfl rfl k) ?_
      obtain ⟨a17, T17, h17, k17, X17, e17, E17, hS17, hk17, hZ17, ho17, st17⟩ := ldcS (s := s) (vm0 := s.vm) X4 hx hZ hown w_11 hws e4 hS0 Z5 (g := (mkF m 66 #[.val (.long p0), .second, .val (.long p1), .second, iv p2, iv p3, .val (.long p4), .second, iv p5, iv z9, .val (.long z20), .second, .val (.long fv), .second, .val (.long wv), .second, .unset, .unset, .unset, .unset, .unset, .unset, .unset, .unset, .unset, .unset, .unset, .unset, .unset] [(.ref a4), (.ref a4)])) rfl (hb hby at_66) (n := 4) (by decide) (by decide) (own_b rfl) (own_b rfl)
      refine own_go (B := (T17.setTop (mkF m 68 #[.val (.long p0), .second, .val (.long p1), .second, iv p2, iv p3, .val (.long p4), .second, iv p5, iv z9, .val (.long z20), .second, .val (.long fv), .second, .val (.long wv), .second, .unset, .unset, .unset, .unset, .unset, .unset, .unset, .unset, .unset, .unset, .unset, .unset, .unset] [(.ref a17), (.ref a4), (.ref a4)]))) st17 ?_
      have Z18 : n0 ≤ h17.size := Nat.le_trans Z6 E17.1
      have K19 := Keep.ext K7 E17
      have F20 := Exa.ext E17 A4
      have F21 := Fld.ext E17 F8
      have F22 := Fld.ext E17 F9
      have F23 := Fld.ext E17 F10
      have F24 := Fld.ext E17 F11
      have F25 := Fld.ext E17 F12
      have F26 := Fld.ext E17 F13
      have F27 := Fld.ext E17 F14
      have F28 := Fld.ext E17 F15
      have F29 := Fld.ext E17 F16
      refine own_go (B := (T17.setTop (mkF m 69 #[.val (.long p0), .second, .val (.long p1), .second, iv p2, iv p3, .val (.long p4), .second, iv p5, iv z9, .val (.long z20), .second, .val (.long fv), .second, .val (.long wv), .second, .unset, .unset, .unset, .unset, .unset, .unset, .unset, .unset, .unset, .unset, .unset, .unset, .unset] [(.int (0 : Int32)), (.ref a17), (.ref a4), (.ref a4)]))) (fun t k => own_iconst (v := (0 : Int32)) X17.here hx rfl (hb hby at_68) (by decide) k) ?_
      refine own_go (B := (T17.setTop (mkF m 71 #[.val (.long p0), .second, .val (.long p1), .second, iv p2, iv p3, .val (.long p4), .second, iv p5, iv z9, .val (.long z20), .second, .val (.long fv), .second, .val (.long wv), .second, .unset, .unset, .unset, .unset, .unset, .unset, .unset, .unset, .unset, .unset, .unset, .unset, .unset] [(.int p3), (.int (0 : Int32)), (.ref a17), (.ref a4), (.ref a4)]))) (fun t k => XS.iload X17.here hx rfl (hb hby at_69) rfl k) ?_
      obtain ⟨_, _, ⟨T30, L30, k30, n30⟩, -, X30, hs30, hg30, ⟨Lc30, hQ30, l30, yy30, zz30⟩, st30⟩ := X17.specialBackS hx (y := own_y28) rfl ho17 (mvT hZ17 w_19) (mvT hZ17 w_20) (mvT hZ17 w_21) (by decide) (backOfS (W := 1) (own_r3 l Z a0 hw [] a4 a17 p3 ac ae ab am h17 n0 Z18 F20 gn4 F21 F22 F23 F24 F25 F26 F27 F28 F29 (own_sta_keep B0 K19 ns0) (own_sta_keep B1 K19 ns0) hne (own_sta_keep B2 K19 ns0) (own_sta_keep B4 K19 ns0)) hZ17 w_21 w_10 (by decide) (by decide)) (g := (mkF m 71 #[.val (.long p0), .second, .val (.long p1), .second, iv p2, iv p3, .val (.long p4), .second, iv p5, iv z9, .val (.long z20), .second, .val (.long fv), .second, .val (.long wv), .second, .unset, .unset, .unset, .unset, .unset, .unset, .unset, .unset, .unset, .unset, .unset, .unset, .unset] [(.int p3), (.int (0 : Int32)), (.ref a17), (.ref a4), (.ref a4)])) rfl (by rw [hml]; rfl) (Steps.refl _) (a := a4) (argsL := [(.ref a17), (.int (0 : Int32)), (.int p3)]) (rest := [(.ref a4)]) (lenOf own_pd16 rfl) rfl (by show 2 * 0 + _ ≤ _; exact own_b rfl) (hb hby at_71) (fun _ _ => ⟨rfl, e17, (own_b rfl : 3 + 2 ≤ _), (own_b rfl : 17 + 36 ≤ _)⟩)
      dsimp only [Pt.U, Pt.locs, Pt.cells, Pt.slots] at X30 l30 yy30 zz30 st30 hQ30 hs30 hg30
      obtain ⟨rfl, Nq30, K30, g0_30, g1_30, g2_30, g3_30, g4_30, g5_30, g6_30, g7_30, g8_30, g9_30⟩ := hQ30
      obtain ⟨L30, X30, N30⟩ := own_absC (K := 5) (K' := 53) X30 l30 yy30 zz30 N2 Nq30
      have X30 : Stand p l e room_1 (s.setVm T30.vm) m #[(.long p0), (.long p1), (.int p2), (.int p3), (.long p4), (.int p5)] below meth c T30 L30 5 53 := X30
      have hS30 := foldS hS17 (T := T17) (by rw [e17]; exact hk17) hs30 hg30
      have hZ30 : Z.Warmed39 (s.setVm T30.vm).vm := State.Warmed39.trans (t := s.setVm T17.vm) hZ17 hs30.1
      have ho30 : (s.setVm T30.vm).vm.findClass "com/example/sluicegate/sluicegate/rule/PacedValuesFreshFromPinLaw" = some m.cls := by rw [show (s.setVm T30.vm).vm = T30.vm from rfl, hs30.1.alike.findClass]; exact ho17
      have F31 : n0 ≤ T30.heap.size := Nat.le_trans Z18 K30.1
      have F32 := Keep.trans K19 K30 (allS (Or.inr (Nat.le_trans K0.1 (Nat.le_of_eq ga4.symm))) all0)
      have F33 := Exa.keep F20 K30
      have hk30 : T30.heap.size ≤ T30.heap.size := Nat.le_refl _
      refine own_tr (B := (T30.setTop (mkF m 74 #[.val (.long p0), .second, .val (.long p1), .second, iv p2, iv p3, .val (.long p4), .second, iv p5, iv z9, .val (.long z20), .second, .val (.long fv), .second, .val (.long wv), .second, .unset, .unset, .unset, .unset, .unset, .unset, .unset, .unset, .unset, .unset, .unset, .unset, .unset] [(.ref a4)]))) st30 ?_
      refine own_go (B := (T30.setTop (mkF m 76 #[.val (.long p0), .second, .val (.long p1), .second, iv p2, iv p3, .val (.long p4), .second, iv p5, iv z9, .val (.long z20), .second, .val (.long fv), .second, .val (.long wv), .second, .unset, .unset, .unset, .unset, .unset, .unset, .unset, .unset, .unset, .unset, .unset, .unset, .unset] [(.int z9), (.ref a4)]))) (fun t k => XS.iload X30.here hx rfl (hb hby at_74) rfl k) ?_
      obtain ⟨cq43, kq43, qa43, qb43, qc43⟩ := isOf hZ30 rfl g0_30
      obtain ⟨_, _, ⟨T43, L43, k43, n43⟩, -, X43, hs43, hg43, ⟨Lc43, hQ43, l43, yy43, zz43⟩, st43⟩ := X30.virtualBackS hx (y := own_y29) (z := own_y29) ho30 (mvT hZ30 w_65) (mvT hZ30 w_66) (notFace_of_selects (args := #[]) (mvT hZ30 w_68)) (mvT hZ30 w_68) (mvT hZ30 w_67) (by decide) (backOfS (W := 0) (own_wd l Z a0 hw [] a4 z9 a17 ac ae ab am p3 T30.heap n0 F31 g0_30 g1_30 g2_30 g3_30 g4_30 g5_30 g6_30 g7_30 g8_30 g9_30 (own_sta_keep B0 F32 ns0) (own_sta_keep B1 F32 ns0) hne hpd) hZ30 w_69 w_10 (by decide) (by decide)) qa43 qc43 (g := (mkF m 76 #[.val (.long p0), .second, .val (.long p1), .second, iv p2, iv p3, .val (.long p4), .second, iv p5, iv z9, .val (.long z20), .second, .val (.long fv), .second, .val (.long wv), .second, .unset, .unset, .unset, .unset, .unset, .unset, .unset, .unset, .unset, .unset, .unset, .unset, .unset] [(.int z9), (.ref a4)])) rfl (by rw [hml]; rfl) (Steps.refl _) (argsL := [(.int z9)]) (rest := []) (lenOf own_pd17 rfl) rfl (by show 2 * 0 + _ ≤ _; exact own_b rfl) (hb hby at_76) (fun _ _ => ⟨rfl, rfl, (own_b rfl : 5 + 3 ≤ _), (own_b rfl : 53 + 45 ≤ _)⟩)
      dsimp only [Pt.U, Pt.locs, Pt.cells, Pt.slots] at X43 l43 yy43 zz43 st43 hQ43 hs43 hg43
      obtain ⟨b43, rfl, Nq43, K43, gz43, g0_43, g1_43, g2_43, g3_43, g4_43, g5_43, g6_43, g7_43, g8_43, g9_43⟩ := hQ43
      obtain ⟨L43, X43, N43⟩ := own_absC (K := 8) (K' := 98) X43 l43 yy43 zz43 N30 Nq43
      have X43 : Stand p l e room_1 (s.setVm T43.vm) m #[(.long p0), (.long p1), (.int p2), (.int p3), (.long p4), (.int p5)] below meth c T43 L43 8 98 := X43
      have hS43 := foldS hS30 (T := T30) hk30 hs43 hg43
      have hZ43 : Z.Warmed39 (s.setVm T43.vm).vm := State.Warmed39.trans (t := s.setVm T30.vm) hZ30 hs43.1
      have ho43 : (s.setVm T43.vm).vm.findClass "com/example/sluicegate/sluicegate/rule/PacedValuesFreshFromPinLaw" = some m.cls := by rw [show (s.setVm T43.vm).vm = T43.vm from rfl, hs43.1.alike.findClass]; exact ho30
      have gn_b43 : n0 ≤ b43 := Nat.le_trans F31 gz43
      have nb43_a4 : b43 ≠ a4 := fun q => absurd g0_30.lt (by rw [← q]; exact Nat.not_lt.mpr gz43)
      have F44 : n0 ≤ T43.heap.size := Nat.le_trans F31 K43.1
      have F45 := Keep.trans F32 K43 all0
      have F46 := Exa.keep g0_30 K43
      have F47 := Fld.keep g1_30 K43 nin0
      have F48 := Fld.keep g2_30 K43 nin0
      have F49 := Fld.keep g3_30 K43 nin0
      have F50 := Fld.keep g4_30 K43 nin0
      have F51 := Fld.keep g5_30 K43 nin0
      have F52 := Fld.keep g6_30 K43 nin0
      have F53 := Fld.keep g7_30 K43 nin0
      have F54 := Fld.keep g8_30 K43 nin0
      have F55 := Fld.keep g9_30 K43 nin0
      have hk43 : T43.heap.size ≤ T43.heap.size := Nat.le_refl _
      refine own_tr (B := (T43.setTop (mkF m 79 #[.val (.long p0), .second, .val (.long p1), .second, iv p2, iv p3, .val (.long p4), .second, iv p5, iv z9, .val (.long z20), .second, .val (.long fv), .second, .val (.long wv), .second, .unset, .unset, .unset, .unset, .unset, .unset, .unset, .unset, .unset, .unset, .unset, .unset, .unset] [(.ref b43)]))) st43 ?_
      refine own_go (B := (T43.setTop (mkF m 81 #[.val (.long p0), .second, .val (.long p1), .second, iv p2, iv p3, .val (.long p4), .second, iv p5, iv z9, .val (.long z20), .second, .val (.long fv), .second, .val (.long wv), .second, .unset, .unset, .unset, .unset, .unset, .unset, .unset, .unset, .unset, .unset, .unset, .unset, .unset] [(.long p4), (.ref b43)]))) (fun t k => XS.lload X43.here hx rfl (hb hby at_79) rfl k) ?_
      have lc56 := X43.ldc2Long hx ho43 (v := (9223372036854775807 : Int64)) (mvT hZ43 w_6) (g := (mkF m 81 #[.val (.long p0), .second, .val (.long p1), .second, iv p2, iv p3, .val (.long p4), .second, iv p5, iv z9, .val (.long z20), .second, .val (.long fv), .second, .val (.long wv), .second, .unset, .unset, .unset, .unset, .unset, .unset, .unset, .unset, .unset, .unset, .unset, .unset, .unset] [(.long p4), (.ref b43)])) rfl (hb hby at_81)
      refine own_go (B := (T43.setTop (mkF m 84 #[.val (.long p0), .second, .val (.long p1), .second, iv p2, iv p3, .val (.long p4), .second, iv p5, iv z9, .val (.long z20), .second, .val (.long fv), .second, .val (.long wv), .second, .unset, .unset, .unset, .unset, .unset, .unset, .unset, .unset, .unset, .unset, .unset, .unset, .unset] [(.long (9223372036854775807 : Int64)), (.long p4), (.ref b43)]))) lc56 ?_
      refine own_go (B := (T43.setTop (mkF m 85 #[.val (.long p0), .second, .val (.long p1), .second, iv p2, iv p3, .val (.long p4), .second, iv p5, iv z9, .val (.long z20), .second, .val (.long fv), .second, .val (.long wv), .second, .unset, .unset, .unset, .unset, .unset, .unset, .unset, .unset, .unset, .unset, .unset, .unset, .unset] [(.long (p4 &&& (9223372036854775807 : Int64))), (.ref b43)]))) (fun t k => XS.land (x := p4) (y := (9223372036854775807 : Int64)) X43.here hx rfl (hb hby at_84) rfl k) ?_
      obtain ⟨z85, hz85⟩ : ∃ z : Int64, z = (p4 &&& (9223372036854775807 : Int64)) := ⟨_, rfl⟩
      rw [← hz85]
      have hpq : ¬ z85 < (0 : Int64) := by rw [hz85]; exact own_mskn p4
      have hmq := hpq
      obtain ⟨cq57, kq57, qa57, qb57, qc57⟩ := isOf hZ43 rfl g0_43
      obtain ⟨_, _, ⟨T57, L57, k57, n57⟩, -, X57, hs57, hg57, ⟨Lc57, hQ57, l57, yy57, zz57⟩, st57⟩ := X43.virtualBackS hx (y := own_y30) (z := own_y30) ho43 (mvT hZ43 w_71) (mvT hZ43 w_72) (notFace_of_selects (args := #[]) (mvT hZ43 w_74)) (mvT hZ43 w_74) (mvT hZ43 w_73) (by decide) (backOfS (W := 0) (own_wu l Z a0 hw [] b43 z85 a17 ac ae ab am ap p3 z9 T43.heap n0 F44 g0_43 g1_43 g2_43 g3_43 g4_43 g5_43 g6_43 g7_43 g8_43 g9_43 (own_sta_keep B0 F45 ns0) (own_sta_keep B1 F45 ns0) hne (own_sta_keep B3 F45 ns0) hpd hpq) hZ43 w_75 w_10 (by decide) (by decide)) qa57 qc57 (g := (mkF m 85 #[.val (.long p0), .second, .val (.long p1), .second, iv p2, iv p3, .val (.long p4), .second, iv p5, iv z9, .val (.long z20), .second, .val (.long fv), .second, .val (.long wv), .second, .unset, .unset, .unset, .unset, .unset, .unset, .unset, .unset, .unset, .unset, .unset, .unset, .unset] [(.long z85), (.ref b43)])) rfl (by rw [hml]; rfl) (Steps.refl _) (argsL := [(.long z85)]) (rest := []) (lenOf own_pd18 rfl) rfl (by show 2 * 0 + _ ≤ _; exact own_b rfl) (hb hby at_85) (fun _ _ => ⟨rfl, rfl, (own_b rfl : 8 + 3 ≤ _), (own_b rfl : 98 + 45 ≤ _)⟩)
      dsimp only [Pt.U, Pt.locs, Pt.cells, Pt.slots] at X57 l57 yy57 zz57 st57 hQ57 hs57 hg57
      obtain ⟨b57, rfl, Nq57, K57, gz57, g0_57, g1_57, g2_57, g3_57, g4_57, g5_57, g6_57, g7_57, g8_57, g9_57⟩ := hQ57
      obtain ⟨L57, X57, N57⟩ := own_absC (K := 11) (K' := 143) X57 l57 yy57 zz57 N43 Nq57
      have X57 : Stand p l e room_1 (s.setVm T57.vm) m #[(.long p0), (.long p1), (.int p2), (.int p3), (.long p4), (.int p5)] below meth c T57 L57 11 143 := X57
      have hS57 := foldS hS43 (T := T43) hk43 hs57 hg57
      have hZ57 : Z.Warmed39 (s.setVm T57.vm).vm := State.Warmed39.trans (t := s.setVm T43.vm) hZ43 hs57.1
      have ho57 : (s.setVm T57.vm).vm.findClass "com/example/sluicegate/sluicegate/rule/PacedValuesFreshFromPinLaw" = some m.cls := by rw [show (s.setVm T57.vm).vm = T57.vm from rfl, hs57.1.alike.findClass]; exact ho43
      have gn_b57 : n0 ≤ b57 := Nat.le_trans F44 gz57
      have nb57_a4 : b57 ≠ a4 := fun q => absurd F46.lt (by rw [← q]; exact Nat.not_lt.mpr gz57)
      have nb57_b43 : b57 ≠ b43 := fun q => absurd g0_43.lt (by rw [← q]; exact Nat.not_lt.mpr gz57)
      have F58 : n0 ≤ T57.heap.size := Nat.le_trans F44 K57.1
      have F59 := Keep.trans F45 K57 all0
      have F60 := Exa.keep F46 K57
      have F61 := Fld.keep F47 K57 nin0
      have F62 := Fld.keep F48 K57 nin0
      have F63 := Fld.keep F49 K57 nin0
      have F64 := Fld.keep F50 K57 nin0
      have F65 := Fld.keep F51 K57 nin0
      have F66 := Fld.keep F52 K57 nin0
      have F67 := Fld.keep F53 K57 nin0
      have F68 := Fld.keep F54 K57 nin0
      have F69 := Fld.keep F55 K57 nin0
      have F70 := Exa.keep g0_43 K57
      have F71 := Fld.keep g1_43 K57 nin0
      have F72 := Fld.keep g2_43 K57 nin0
      have F73 := Fld.keep g3_43 K57 nin0
      have F74 := Fld.keep g4_43 K57 nin0
      have F75 := Fld.keep g5_43 K57 nin0
      have F76 := Fld.keep g6_43 K57 nin0
      have F77 := Fld.keep g7_43 K57 nin0
      have F78 := Fld.keep g8_43 K57 nin0
      have F79 := Fld.keep g9_43 K57 nin0
      have hk57 : T57.heap.size ≤ T57.heap.size := Nat.le_refl _
      refine own_tr (B := (T57.setTop (mkF m 88 #[.val (.long p0), .second, .val (.long p1), .second, iv p2, iv p3, .val (.long p4), .second, iv p5, iv z9, .val (.long z20), .second, .val (.long fv), .second, .val (.long wv), .second, .unset, .unset, .unset, .unset, .unset, .unset, .unset, .unset, .unset, .unset, .unset, .unset, .unset] [(.ref b57)]))) st57 ?_
      refine own_go (B := (T57.setTop (mkF m 90 #[.val (.long p0), .second, .val (.long p1), .second, iv p2, iv p3, .val (.long p4), .second, iv p5, iv z9, .val (.long z20), .second, .val (.long fv), .second, .val (.long wv), .second, rv b57, .unset, .unset, .unset, .unset, .unset, .unset, .unset, .unset, .unset, .unset, .unset, .unset] []))) (fun t k => XS.astore X57.here hx rfl (hb hby at_88) rfl rfl (l' := #[.val (.long p0), .second, .val (.long p1), .second, iv p2, iv p3, .val (.long p4), .second, iv p5, iv z9, .val (.long z20), .second, .val (.long fv), .second, .val (.long wv), .second, rv b57, .unset, .unset, .unset, .unset, .unset, .unset, .unset, .unset, .unset, .unset, .unset, .unset]) rfl k) ?_
      obtain ⟨T80, h80, X80, e80, E80, A80, D80, U80, st80⟩ := newO X57 hx hZ57 ho57 w_78 w_79 w_80 rfl (g := (mkF m 90 #[.val (.long p0), .second, .val (.long p1), .second, iv p2, iv p3, .val (.long p4), .second, iv p5, iv z9, .val (.long z20), .second, .val (.long fv), .second, .val (.long wv), .second, rv b57, .unset, .unset, .unset, .unset, .unset, .unset, .unset, .unset, .unset, .unset, .unset, .unset] [])) rfl (hb hby at_90) (own_b rfl) (own_b rfl)
      obtain ⟨a80, ga80⟩ : ∃ z, z = T57.heap.size := ⟨_, rfl⟩
      rw [← ga80] at A80 D80 U80 st80
      refine own_go (B := (T80.setTop (mkF m 93 #[.val (.long p0), .second, .val (.long p1), .second, iv p2, iv p3, .val (.long p4), .second, iv p5, iv z9, .val (.long z20), .second, .val (.long fv), .second, .val (.long wv), .second, rv b57, .unset, .unset, .unset, .unset, .unset, .unset, .unset, .unset, .unset, .unset, .unset, .unset] [(.ref a80)]))) st80 ?_
      have Z81 : n0 ≤ h80.size := Nat.le_trans F58 E80.1
      have K82 := Keep.ext F59 E80
      have F83 := Exa.ext E80 F60
      have F84 := Fld.ext E80 F61
      have F85 := Fld.ext E80 F62
      have F86 := Fld.ext E80 F63
      have F87 := Fld.ext E80 F64
      have F88 := Fld.ext E80 F65
      have F89 := Fld.ext E80 F66
      have F90 := Fld.ext E80 F67
      have F91 := Fld.ext E80 F68
      have F92 := Fld.ext E80 F69
      have F93 := Exa.ext E80 F70
      have F94 := Fld.ext E80 F71
      have F95 := Fld.ext E80 F72
      have F96 := Fld.ext E80 F73
      have F97 := Fld.ext E80 F74
      have F98 := Fld.ext E80 F75
      have F99 := Fld.ext E80 F76
      have F100 := Fld.ext E80 F77
      have F101 := Fld.ext E80 F78
      have F102 := Fld.ext E80 F79
      have F103 := Exa.ext E80 g0_57
      have F104 := Fld.ext E80 g1_57
      have F105 := Fld.ext E80 g2_57
      have F106 := Fld.ext E80 g3_57
      have F107 := Fld.ext E80 g4_57
      have F108 := Fld.ext E80 g5_57
      have F109 := Fld.ext E80 g6_57
      have F110 := Fld.ext E80 g7_57
      have F111 := Fld.ext E80 g8_57
      have F112 := Fld.ext E80 g9_57
      have Z113 : T57.heap.size ≤ h80.size := Nat.le_trans hk57 E80.1
      have gn80 : n0 ≤ a80 := Nat.le_trans F58 (Nat.le_of_eq ga80.symm)
      have ne80_a4 : a80 ≠ a4 := fun q => absurd (F60.lt) (by rw [← q, ga80]; exact Nat.lt_irrefl _)
      have ne80_b43 : a80 ≠ b43 := fun q => absurd (F70.lt) (by rw [← q, ga80]; exact Nat.lt_irrefl _)
      have ne80_b57 : a80 ≠ b57 := fun q => absurd (g0_57.lt) (by rw [← q, ga80]; exact Nat.lt_irrefl _)
      have F114 : Fld Z h80 a80 "com/example/sluicegate/sluicegate/rule/HotValues" "shards" "Lcom/example/sluicegate/sluicegate/rule/ValueShards;" .null := D80 (Or.inr w_145) (ty := (.object "com/example/sluicegate/sluicegate/rule/ValueShards")) (by decide)
      have F115 : Fld Z h80 a80 "com/example/sluicegate/sluicegate/rule/HotValues" "kept" "Ljava/util/concurrent/atomic/AtomicInteger;" .null := D80 (Or.inr w_160) (ty := (.object "java/util/concurrent/atomic/AtomicInteger")) (by decide)
      have F116 : Fld Z h80 a80 "com/example/sluicegate/sluicegate/rule/HotValues" "keptEver" "Ljava/util/concurrent/atomic/AtomicLong;" .null := D80 (Or.inr w_170) (ty := (.object "java/util/concurrent/atomic/AtomicLong")) (by decide)
      have F117 : Fld Z h80 a80 "com/example/sluicegate/sluicegate/rule/HotValues" "rule" "Lcom/example/sluicegate/sluicegate/rule/HotParameterRule;" .null := D80 (Or.inr w_172) (ty := (.object "com/example/sluicegate/sluicegate/rule/HotParameterRule")) (by decide)
      have F118 : Fld Z h80 a80 "com/example/sluicegate/sluicegate/rule/HotValues" "durationMillis" "J" (.long (0 : Int64)) := D80 (Or.inr w_193) (ty := .long) (by decide)
      have F119 : Fld Z h80 a80 "com/example/sluicegate/sluicegate/rule/HotValues" "setAsideByPlace" "[Ljava/util/Map;" .null := D80 (Or.inr w_197) (ty := (.array (.object "java/util/Map"))) (by decide)
      have F120 : Fld Z h80 a80 "com/example/sluicegate/sluicegate/rule/PacedValues" "durationNanos" "J" (.long (0 : Int64)) := D80 (Or.inr w_208) (ty := .long) (by decide)
      have F121 : Fld Z h80 a80 "com/example/sluicegate/sluicegate/rule/PacedValues" "maxQueueingNanos" "J" (.long (0 : Int64)) := D80 (Or.inr w_216) (ty := .long) (by decide)
      refine own_go (B := (T80.setTop (mkF m 94 #[.val (.long p0), .second, .val (.long p1), .second, iv p2, iv p3, .val (.long p4), .second, iv p5, iv z9, .val (.long z20), .second, .val (.long fv), .second, .val (.long wv), .second, rv b57, .unset, .unset, .unset, .unset, .unset, .unset, .unset, .unset, .unset, .unset, .unset, .unset] [(.ref a80), (.ref a80)]))) (fun t k => XS.dup X80.here hx rfl (hb hby at_93) rfl rfl k) ?_
      refine own_go (B := (T80.setTop (mkF m 96 #[.val (.long p0), .second, .val (.long p1), .second, iv p2, iv p3, .val (.long p4), .second, iv p5, iv z9, .val (.long z20), .second, .val (.long fv), .second, .val (.long wv), .second, rv b57, .unset, .unset, .unset, .unset, .unset, .unset, .unset, .unset, .unset, .unset, .unset, .unset] [(.ref b57), (.ref a80), (.ref a80)]))) (fun t k => XS.aload X80.here hx rfl (hb hby at_94) rfl rfl k) ?_
      obtain ⟨_, _, ⟨T122, L122, k122, n122⟩, -, X122, ⟨Lc122, hQ122, l122, yy122, zz122⟩, st122⟩ := X80.specialBack hx (y := own_y31) rfl ho57 (mvT hZ57 w_81) (mvT hZ57 w_82) (mvT hZ57 w_83) (by decide) (backOf (W := 1) (own_pv l Z a0 hw [] a80 b57 aSec aMil (1000 : Int32) z9 z85 h80 n0 Z81 A80 gn80 F114 F115 F116 F117 F118 F119 F120 F121 F103 F108 F111 ne80_b57 (own_sta_keep B5 K82 ns0) (own_sta_keep B6 K82 ns0) (Exa.keep B7 K82) oas (Fld.keep B8 K82 nin0) (Fld.keep B9 K82 nin0) (Fld.keep B10 K82 nin0) (Fld.keep B11 K82 nin0) (own_sta_keep B12 K82 ns0) (Exa.keep B13 K82) oat (Fld.keep B14 K82 nin0) (Fld.keep B15 K82 nin0) hdu hmq) hZ57 w_83 w_80 (by decide) (by decide)) (g := (mkF m 96 #[.val (.long p0), .second, .val (.long p1), .second, iv p2, iv p3, .val (.long p4), .second, iv p5, iv z9, .val (.long z20), .second, .val (.long fv), .second, .val (.long wv), .second, rv b57, .unset, .unset, .unset, .unset, .unset, .unset, .unset, .unset, .unset, .unset, .unset, .unset] [(.ref b57), (.ref a80), (.ref a80)])) rfl (by rw [hml]; rfl) (Steps.refl _) (a := a80) (argsL := [(.ref b57)]) (rest := [(.ref a80)]) (lenOf own_pd8 rfl) rfl (by show 2 * 0 + _ ≤ _; exact own_b rfl) (hb hby at_96) (fun _ _ => ⟨rfl, e80, (own_b rfl : 12 + 55 ≤ _), (own_b rfl : 157 + 779 ≤ _)⟩)
      dsimp only [Pt.U, Pt.locs, Pt.cells, Pt.slots] at X122 l122 yy122 zz122 st122 hQ122
      obtain ⟨rfl, Nq122, K122, g0_122, g1_122⟩ := hQ122
      obtain ⟨L122, X122, N122⟩ := own_absC (K := 67) (K' := 936) X122 l122 yy122 zz122 N57 Nq122
      have F123 : n0 ≤ T122.heap.size := Nat.le_trans Z81 K122.1
      have F124 := Keep.trans K82 K122 (allS (Or.inr (Nat.le_trans F59.1 (Nat.le_of_eq ga80.symm))) all0)
      have F125 := Exa.keep F83 K122
      have F126 := Fld.keep F84 K122 (ninS (Ne.symm ne80_a4) nin0)
      have F127 := Fld.keep F85 K122 (ninS (Ne.symm ne80_a4) nin0)
      have F128 := Fld.keep F86 K122 (ninS (Ne.symm ne80_a4) nin0)
      have F129 := Fld.keep F87 K122 (ninS (Ne.symm ne80_a4) nin0)
      have F130 := Fld.keep F88 K122 (ninS (Ne.symm ne80_a4) nin0)
      have F131 := Fld.keep F89 K122 (ninS (Ne.symm ne80_a4) nin0)
      have F132 := Fld.keep F90 K122 (ninS (Ne.symm ne80_a4) nin0)
      have F133 := Fld.keep F91 K122 (ninS (Ne.symm ne80_a4) nin0)
      have F134 := Fld.keep F92 K122 (ninS (Ne.symm ne80_a4) nin0)
      have F135 := Exa.keep F93 K122
      have F136 := Fld.keep F94 K122 (ninS (Ne.symm ne80_b43) nin0)
      have F137 := Fld.keep F95 K122 (ninS (Ne.symm ne80_b43) nin0)
      have F138 := Fld.keep F96 K122 (ninS (Ne.symm ne80_b43) nin0)
      have F139 := Fld.keep F97 K122 (ninS (Ne.symm ne80_b43) nin0)
      have F140 := Fld.keep F98 K122 (ninS (Ne.symm ne80_b43) nin0)
      have F141 := Fld.keep F99 K122 (ninS (Ne.symm ne80_b43) nin0)
      have F142 := Fld.keep F100 K122 (ninS (Ne.symm ne80_b43) nin0)
      have F143 := Fld.keep F101 K122 (ninS (Ne.symm ne80_b43) nin0)
      have F144 := Fld.keep F102 K122 (ninS (Ne.symm ne80_b43) nin0)
      have F145 := Exa.keep F103 K122
      have F146 := Fld.keep F104 K122 (ninS (Ne.symm ne80_b57) nin0)
      have F147 := Fld.keep F105 K122 (ninS (Ne.symm ne80_b57) nin0)
      have F148 := Fld.keep F106 K122 (ninS (Ne.symm ne80_b57) nin0)
      have F149 := Fld.keep F107 K122 (ninS (Ne.symm ne80_b57) nin0)
      have F150 := Fld.keep F108 K122 (ninS (Ne.symm ne80_b57) nin0)
      have F151 := Fld.keep F109 K122 (ninS (Ne.symm ne80_b57) nin0)
      have F152 := Fld.keep F110 K122 (ninS (Ne.symm ne80_b57) nin0)
      have F153 := Fld.keep F111 K122 (ninS (Ne.symm ne80_b57) nin0)
      have F154 := Fld.keep F112 K122 (ninS (Ne.symm ne80_b57) nin0)
      have F155 : T57.heap.size ≤ T122.heap.size := Nat.le_trans Z113 K122.1
      have F156 := Exa.keep A80 K122
      refine own_tr (B := (T122.setTop (mkF m 99 #[.val (.long p0), .second, .val (.long p1), .second, iv p2, iv p3, .val (.long p4), .second, iv p5, iv z9, .val (.long z20), .second, .val (.long fv), .second, .val (.long wv), .second, rv b57, .unset, .unset, .unset, .unset, .unset, .unset, .unset, .unset, .unset, .unset, .unset, .unset] [(.ref a80)]))) st122 ?_
      obtain ⟨dn, hdn0⟩ : ∃ z : Int64, z = (own_nan (z9.toInt64) (1000000000 : Int64) (9223372036 : Int64)) := ⟨_, rfl⟩
      rw [← hdn0] at g1_122
      have hdv1 := own_dnv hpd hdn0
      have hdn := hdv1.1
      have hdv := hdv1.2.1
      refine own_go (B := (T122.setTop (mkF m 101 #[.val (.long p0), .second, .val (.long p1), .second, iv p2, iv p3, .val (.long p4), .second, iv p5, iv z9, .val (.long z20), .second, .val (.long fv), .second, .val (.long wv), .second, rv b57, rv a80, .unset, .unset, .unset, .unset, .unset, .unset, .unset, .unset, .unset, .unset, .unset] []))) (fun t k => XS.astore X122.here hx rfl (hb hby at_99) rfl rfl (l' := #[.val (.long p0), .second, .val (.long p1), .second, iv p2, iv p3, .val (.long p4), .second, iv p5, iv z9, .val (.long z20), .second, .val (.long fv), .second, .val (.long wv), .second, rv b57, rv a80, .unset, .unset, .unset, .unset, .unset, .unset, .unset, .unset, .unset, .unset, .unset]) rfl k) ?_
      obtain ⟨T165, h165, X165, e165, E165, A165, D165, U165, st165⟩ := newO X122 hx hZ57 ho57 w_217 w_218 w_219 rfl (g := (mkF m 101 #[.val (.long p0), .second, .val (.long p1), .second, iv p2, iv p3, .val (.long p4), .second, iv p5, iv z9, .val (.long z20), .second, .val (.long fv), .second, .val (.long wv), .second, rv b57, rv a80, .unset, .unset, .unset, .unset, .unset, .unset, .unset, .unset, .unset, .unset, .unset] [])) rfl (hb hby at_101) (own_b rfl) (own_b rfl)
      obtain ⟨a165, ga165⟩ : ∃ z, z = T122.heap.size := ⟨_, rfl⟩
      rw [← ga165] at A165 D165 U165 st165
      refine own_go (B := (T165.setTop (mkF m 104 #[.val (.long p0), .second, .val (.long p1), .second, iv p2, iv p3, .val (.long p4), .second, iv p5, iv z9, .val (.long z20), .second, .val (.long fv), .second, .val (.long wv), .second, rv b57, rv a80, .unset, .unset, .unset, .unset, .unset, .unset, .unset, .unset, .unset, .unset, .unset] [(.ref a165)]))) st165 ?_
      have Z166 : n0 ≤ h165.size := Nat.le_trans F123 E165.1
      have K167 := Keep.ext F124 E165
      have F168 := Exa.ext E165 F125
      have F169 := Fld.ext E165 F126
      have F170 := Fld.ext E165 F127
      have F171 := Fld.ext E165 F128
      have F172 := Fld.ext E165 F129
      have F173 := Fld.ext E165 F130
      have F174 := Fld.ext E165 F131
      have F175 := Fld.ext E165 F132
      have F176 := Fld.ext E165 F133
      have F177 := Fld.ext E165 F134
      have F178 := Exa.ext E165 F135
      have F179 := Fld.ext E165 F136
      have F180 := Fld.ext E165 F137
      have F181 := Fld.ext E165 F138
      have F182 := Fld.ext E165 F139
      have F183 := Fld.ext E165 F140
      have F184 := Fld.ext E165 F141
      have F185 := Fld.ext E165 F142
      have F186 := Fld.ext E165 F143
      have F187 := Fld.ext E165 F144
      have F188 := Exa.ext E165 F145
      have F189 := Fld.ext E165 F146
      have F190 := Fld.ext E165 F147
      have F191 := Fld.ext E165 F148
      have F192 := Fld.ext E165 F149
      have F193 := Fld.ext E165 F150
      have F194 := Fld.ext E165 F151
      have F195 := Fld.ext E165 F152
      have F196 := Fld.ext E165 F153
      have F197 := Fld.ext E165 F154
      have Z198 : T57.heap.size ≤ h165.size := Nat.le_trans F155 E165.1
      have F199 := Exa.ext E165 g0_122
      have F200 := Fld.ext E165 g1_122
      have gn165 : n0 ≤ a165 := Nat.le_trans F123 (Nat.le_of_eq ga165.symm)
      have ne165_a4 : a165 ≠ a4 := fun q => absurd (F125.lt) (by rw [← q, ga165]; exact Nat.lt_irrefl _)
      have ne165_b43 : a165 ≠ b43 := fun q => absurd (F135.lt) (by rw [← q, ga165]; exact Nat.lt_irrefl _)
      have ne165_b57 : a165 ≠ b57 := fun q => absurd (F145.lt) (by rw [← q, ga165]; exact Nat.lt_irrefl _)
      have ne165_a80 : a165 ≠ a80 := fun q => absurd (g0_122.lt) (by rw [← q, ga165]; exact Nat.lt_irrefl _)
      have F201 : Fld Z h165 a165 "com/example/sluicegate/sluicegate/rule/Slot" "fromNanos" "J" (.long (0 : Int64)) := D165 (Or.inr w_225) (ty := .long) (by decide)
      have F202 : Fld Z h165 a165 "com/example/sluicegate/sluicegate/rule/Slot" "waitNanos" "J" (.long (0 : Int64)) := D165 (Or.inl w_232) (ty := .long) (by decide)
      refine own_go (B := (T165.setTop (mkF m 105 #[.val (.long p0), .second, .val (.long p1), .second, iv p2, iv p3, .val (.long p4), .second, iv p5, iv z9, .val (.long z20), .second, .val (.long fv), .second, .val (.long wv), .second, rv b57, rv a80, .unset, .unset, .unset, .unset, .unset, .unset, .unset, .unset, .unset, .unset, .unset] [(.ref a165), (.ref a165)]))) (fun t k => XS.dup X165.here hx rfl (hb hby at_104) rfl rfl k) ?_
      refine own_go (B := (T165.setTop (mkF m 107 #[.val (.long p0), .second, .val (.long p1), .second, iv p2, iv p3, .val (.long p4), .second, iv p5, iv z9, .val (.long z20), .second, .val (.long fv), .second, .val (.long wv), .second, rv b57, rv a80, .unset, .unset, .unset, .unset, .unset, .unset, .unset, .unset, .unset, .unset, .unset] [(.long fv), (.ref a165), (.ref a165)]))) (fun t k => XS.lload X165.here hx rfl (hb hby at_105) rfl k) ?_
      obtain ⟨_, _, ⟨T203, L203, k203, n203⟩, -, X203, ⟨Lc203, hQ203, l203, yy203, zz203⟩, st203⟩ := X165.specialBack hx (y := own_y32) rfl ho57 (mvT hZ57 w_220) (mvT hZ57 w_221) (mvT hZ57 w_222) (by decide) (backOf (W := 1) (own_slc l Z a0 hw [] a165 fv h165 n0 Z166 A165 gn165 F201 F202) hZ57 w_222 w_219 (by decide) (by decide)) (g := (mkF m 107 #[.val (.long p0), .second, .val (.long p1), .second, iv p2, iv p3, .val (.long p4), .second, iv p5, iv z9, .val (.long z20), .second, .val (.long fv), .second, .val (.long wv), .second, rv b57, rv a80, .unset, .unset, .unset, .unset, .unset, .unset, .unset, .unset, .unset, .unset, .unset] [(.long fv), (.ref a165), (.ref a165)])) rfl (by rw [hml]; rfl) (Steps.refl _) (a := a165) (argsL := [(.long fv)]) (rest := [(.ref a165)]) (lenOf own_pd19 rfl) rfl (by show 2 * 0 + _ ≤ _; exact own_b rfl) (hb hby at_107) (fun _ _ => ⟨rfl, e165, (own_b rfl : 68 + 0 ≤ _), (own_b rfl : 938 + 0 ≤ _)⟩)
      dsimp only [Pt.U, Pt.locs, Pt.cells, Pt.slots] at X203 l203 yy203 zz203 st203 hQ203
      obtain ⟨rfl, Nq203, K203, g0_203, g1_203, g2_203⟩ := hQ203
      obtain ⟨L203, X203, N203⟩ := own_absC (K := 68) (K' := 938) X203 l203 yy203 zz203 N122 Nq203
      have F204 : n0 ≤ T203.heap.size := Nat.le_trans Z166 K203.1
      have F205 := Keep.trans K167 K203 (allS (Or.inr (Nat.le_trans F124.1 (Nat.le_of_eq ga165.symm))) all0)
      have F206 := Exa.keep F168 K203
      have F207 := Fld.keep F169 K203 (ninS (Ne.symm ne165_a4) nin0)
      have F208 := Fld.keep F170 K203 (ninS (Ne.symm ne165_a4) nin0)
      have F209 := Fld.keep F171 K203 (ninS (Ne.symm ne165_a4) nin0)
      have F210 := Fld.keep F172 K203 (ninS (Ne.symm ne165_a4) nin0)
      have F211 := Fld.keep F173 K203 (ninS (Ne.symm ne165_a4) nin0)
      have F212 := Fld.keep F174 K203 (ninS (Ne.symm ne165_a4) nin0)
      have F213 := Fld.keep F175 K203 (ninS (Ne.symm ne165_a4) nin0)
      have F214 := Fld.keep F176 K203 (ninS (Ne.symm ne165_a4) nin0)
      have F215 := Fld.keep F177 K203 (ninS (Ne.symm ne165_a4) nin0)
      have F216 := Exa.keep F178 K203
      have F217 := Fld.keep F179 K203 (ninS (Ne.symm ne165_b43) nin0)
      have F218 := Fld.keep F180 K203 (ninS (Ne.symm ne165_b43) nin0)
      have F219 := Fld.keep F181 K203 (ninS (Ne.symm ne165_b43) nin0)
      have F220 := Fld.keep F182 K203 (ninS (Ne.symm ne165_b43) nin0)
      have F221 := Fld.keep F183 K203 (ninS (Ne.symm ne165_b43) nin0)
      have F222 := Fld.keep F184 K203 (ninS (Ne.symm ne165_b43) nin0)
      have F223 := Fld.keep F185 K203 (ninS (Ne.symm ne165_b43) nin0)
      have F224 := Fld.keep F186 K203 (ninS (Ne.symm ne165_b43) nin0)
      have F225 := Fld.keep F187 K203 (ninS (Ne.symm ne165_b43) nin0)
      have F226 := Exa.keep F188 K203
      have F227 := Fld.keep F189 K203 (ninS (Ne.symm ne165_b57) nin0)
      have F228 := Fld.keep F190 K203 (ninS (Ne.symm ne165_b57) nin0)
      have F229 := Fld.keep F191 K203 (ninS (Ne.symm ne165_b57) nin0)
      have F230 := Fld.keep F192 K203 (ninS (Ne.symm ne165_b57) nin0)
      have F231 := Fld.keep F193 K203 (ninS (Ne.symm ne165_b57) nin0)
      have F232 := Fld.keep F194 K203 (ninS (Ne.symm ne165_b57) nin0)
      have F233 := Fld.keep F195 K203 (ninS (Ne.symm ne165_b57) nin0)
      have F234 := Fld.keep F196 K203 (ninS (Ne.symm ne165_b57) nin0)
      have F235 := Fld.keep F197 K203 (ninS (Ne.symm ne165_b57) nin0)
      have F236 : T57.heap.size ≤ T203.heap.size := Nat.le_trans Z198 K203.1
      have F237 := Exa.keep F199 K203
      have F238 := Fld.keep F200 K203 (ninS (Ne.symm ne165_a80) nin0)
      have F239 := Exa.keep A165 K203
      refine own_tr (B := (T203.setTop (mkF m 110 #[.val (.long p0), .second, .val (.long p1), .second, iv p2, iv p3, .val (.long p4), .second, iv p5, iv z9, .val (.long z20), .second, .val (.long fv), .second, .val (.long wv), .second, rv b57, rv a80, .unset, .unset, .unset, .unset, .unset, .unset, .unset, .unset, .unset, .unset, .unset] [(.ref a165)]))) st203 ?_
      refine own_go (B := (T203.setTop (mkF m 112 #[.val (.long p0), .second, .val (.long p1), .second, iv p2, iv p3, .val (.long p4), .second, iv p5, iv z9, .val (.long z20), .second, .val (.long fv), .second, .val (.long wv), .second, rv b57, rv a80, rv a165, .unset, .unset, .unset, .unset, .unset, .unset, .unset, .unset, .unset, .unset] []))) (fun t k => XS.astore X203.here hx rfl (hb hby at_110) rfl rfl (l' := #[.val (.long p0), .second, .val (.long p1), .second, iv p2, iv p3, .val (.long p4), .second, iv p5, iv z9, .val (.long z20), .second, .val (.long fv), .second, .val (.long wv), .second, rv b57, rv a80, rv a165, .unset, .unset, .unset, .unset, .unset, .unset, .unset, .unset, .unset, .unset]) rfl k) ?_
      refine own_go (B := (T203.setTop (mkF m 114 #[.val (.long p0), .second, .val (.long p1), .second, iv p2, iv p3, .val (.long p4), .second, iv p5, iv z9, .val (.long z20), .second, .val (.long fv), .second, .val (.long wv), .second, rv b57, rv a80, rv a165, .unset, .unset, .unset, .unset, .unset, .unset, .unset, .unset, .unset, .unset] [(.ref a165)]))) (fun t k => XS.aload X203.here hx rfl (hb hby at_112) rfl rfl k) ?_
      refine own_go (B := (T203.setTop (mkF m 116 #[.val (.long p0), .second, .val (.long p1), .second, iv p2, iv p3, .val (.long p4), .second, iv p5, iv z9, .val (.long z20), .second, .val (.long fv), .second, .val (.long wv), .second, rv b57, rv a80, rv a165, .unset, .unset, .unset, .unset, .unset, .unset, .unset, .unset, .unset, .unset] [(.long wv), (.ref a165)]))) (fun t k => XS.lload X203.here hx rfl (hb hby at_114) rfl k) ?_
      obtain ⟨cq242, kq242, qa242, qb242, qc242⟩ := isOf hZ57 rfl g0_203
      obtain ⟨_, _, ⟨T242, L242, k242, n242⟩, -, X242, ⟨Lc242, hQ242, l242, yy242, zz242⟩, st242⟩ := X203.virtualBack hx (y := own_y33) (z := own_y33) ho57 (mvT hZ57 w_226) (mvT hZ57 w_227) (notFace_of_selects (args := #[]) (mvT hZ57 w_229)) (mvT hZ57 w_229) (mvT hZ57 w_228) (by decide) (backOf (W := 0) (own_wl l Z a0 hw [] a165 wv fv T203.heap n0 F204 g0_203 gn165 g1_203 g2_203) hZ57 w_230 w_219 (by decide) (by decide)) qa242 qc242 (g := (mkF m 116 #[.val (.long p0), .second, .val (.long p1), .second, iv p2, iv p3, .val (.long p4), .second, iv p5, iv z9, .val (.long z20), .second, .val (.long fv), .second, .val (.long wv), .second, rv b57, rv a80, rv a165, .unset, .unset, .unset, .unset, .unset, .unset, .unset, .unset, .unset, .unset] [(.long wv), (.ref a165)])) rfl (by rw [hml]; rfl) (Steps.refl _) (argsL := [(.long wv)]) (rest := []) (lenOf own_pd19 rfl) rfl (by show 2 * 0 + _ ≤ _; exact own_b rfl) (hb hby at_116) (fun _ _ => ⟨rfl, rfl, (own_b rfl : 68 + 0 ≤ _), (own_b rfl : 938 + 0 ≤ _)⟩)
      dsimp only [Pt.U, Pt.locs, Pt.cells, Pt.slots] at X242 l242 yy242 zz242 st242 hQ242
      obtain ⟨rfl, Nq242, K242, g0_242, g1_242, g2_242⟩ := hQ242
      obtain ⟨L242, X242, N242⟩ := own_absC (K := 68) (K' := 938) X242 l242 yy242 zz242 N203 Nq242
      have F243 : n0 ≤ T242.heap.size := Nat.le_trans F204 K242.1
      have F244 := Keep.trans F205 K242 (allS (Or.inr (Nat.le_trans F124.1 (Nat.le_of_eq ga165.symm))) all0)
      have F245 := Exa.keep F206 K242
      have F246 := Fld.keep F207 K242 (ninS (Ne.symm ne165_a4) nin0)
      have F247 := Fld.keep F208 K242 (ninS (Ne.symm ne165_a4) nin0)
      have F248 := Fld.keep F209 K242 (ninS (Ne.symm ne165_a4) nin0)
      have F249 := Fld.keep F210 K242 (ninS (Ne.symm ne165_a4) nin0)
      have F250 := Fld.keep F211 K242 (ninS (Ne.symm ne165_a4) nin0)
      have F251 := Fld.keep F212 K242 (ninS (Ne.symm ne165_a4) nin0)
      have F252 := Fld.keep F213 K242 (ninS (Ne.symm ne165_a4) nin0)
      have F253 := Fld.keep F214 K242 (ninS (Ne.symm ne165_a4) nin0)
      have F254 := Fld.keep F215 K242 (ninS (Ne.symm ne165_a4) nin0)
      have F255 := Exa.keep F216 K242
      have F256 := Fld.keep F217 K242 (ninS (Ne.symm ne165_b43) nin0)
      have F257 := Fld.keep F218 K242 (ninS (Ne.symm ne165_b43) nin0)
      have F258 := Fld.keep F219 K242 (ninS (Ne.symm ne165_b43) nin0)
      have F259 := Fld.keep F220 K242 (ninS (Ne.symm ne165_b43) nin0)
      have F260 := Fld.keep F221 K242 (ninS (Ne.symm ne165_b43) nin0)
      have F261 := Fld.keep F222 K242 (ninS (Ne.symm ne165_b43) nin0)
      have F262 := Fld.keep F223 K242 (ninS (Ne.symm ne165_b43) nin0)
      have F263 := Fld.keep F224 K242 (ninS (Ne.symm ne165_b43) nin0)
      have F264 := Fld.keep F225 K242 (ninS (Ne.symm ne165_b43) nin0)
      have F265 := Exa.keep F226 K242
      have F266 := Fld.keep F227 K242 (ninS (Ne.symm ne165_b57) nin0)
      have F267 := Fld.keep F228 K242 (ninS (Ne.symm ne165_b57) nin0)
      have F268 := Fld.keep F229 K242 (ninS (Ne.symm ne165_b57) nin0)
      have F269 := Fld.keep F230 K242 (ninS (Ne.symm ne165_b57) nin0)
      have F270 := Fld.keep F231 K242 (ninS (Ne.symm ne165_b57) nin0)
      have F271 := Fld.keep F232 K242 (ninS (Ne.symm ne165_b57) nin0)
      have F272 := Fld.keep F233 K242 (ninS (Ne.symm ne165_b57) nin0)
      have F273 := Fld.keep F234 K242 (ninS (Ne.symm ne165_b57) nin0)
      have F274 := Fld.keep F235 K242 (ninS (Ne.symm ne165_b57) nin0)
      have F275 : T57.heap.size ≤ T242.heap.size := Nat.le_trans F236 K242.1
      have F276 := Exa.keep F237 K242
      have F277 := Fld.keep F238 K242 (ninS (Ne.symm ne165_a80) nin0)
      have F278 := Exa.keep g0_203 K242
      refine own_tr (B := (T242.setTop (mkF m 119 #[.val (.long p0), .second, .val (.long p1), .second, iv p2, iv p3, .val (.long p4), .second, iv p5, iv z9, .val (.long z20), .second, .val (.long fv), .second, .val (.long wv), .second, rv b57, rv a80, rv a165, .unset, .unset, .unset, .unset, .unset, .unset, .unset, .unset, .unset, .unset] []))) st242 ?_
      refine own_go (B := (T242.setTop (mkF m 121 #[.val (.long p0), .second, .val (.long p1), .second, iv p2, iv p3, .val (.long p4), .second, iv p5, iv z9, .val (.long z20), .second, .val (.long fv), .second, .val (.long wv), .second, rv b57, rv a80, rv a165, .unset, .unset, .unset, .unset, .unset, .unset, .unset, .unset, .unset, .unset] [(.ref a80)]))) (fun t k => XS.aload X242.here hx rfl (hb hby at_119) rfl rfl k) ?_
      refine own_go (B := (T242.setTop (mkF m 123 #[.val (.long p0), .second, .val (.long p1), .second, iv p2, iv p3, .val (.long p4), .second, iv p5, iv z9, .val (.long z20), .second, .val (.long fv), .second, .val (.long wv), .second, rv b57, rv a80, rv a165, .unset, .unset, .unset, .unset, .unset, .unset, .unset, .unset, .unset, .unset] [(.ref a80), (.ref a80)]))) (fun t k => XS.aload X242.here hx rfl (hb hby at_121) rfl rfl k) ?_
      refine own_go (B := (T242.setTop (mkF m 124 #[.val (.long p0), .second, .val (.long p1), .second, iv p2, iv p3, .val (.long p4), .second, iv p5, iv z9, .val (.long z20), .second, .val (.long fv), .second, .val (.long wv), .second, rv b57, rv a80, rv a165, .unset, .unset, .unset, .unset, .unset, .unset, .unset, .unset, .unset, .unset] [.null, (.ref a80), (.ref a80)]))) (fun t k => XS.aconstNull X242.here hx rfl (hb hby at_123) k) ?_
      refine own_go (B := (T242.setTop (mkF m 125 #[.val (.long p0), .second, .val (.long p1), .second, iv p2, iv p3, .val (.long p4), .second, iv p5, iv z9, .val (.long z20), .second, .val (.long fv), .second, .val (.long wv), .second, rv b57, rv a80, rv a165, .unset, .unset, .unset, .unset, .unset, .unset, .unset, .unset, .unset, .unset] [.null, .null, (.ref a80), (.ref a80)]))) (fun t k => XS.aconstNull X242.here hx rfl (hb hby at_124) k) ?_
      refine own_go (B := (T242.setTop (mkF m 127 #[.val (.long p0), .second, .val (.long p1), .second, iv p2, iv p3, .val (.long p4), .second, iv p5, iv z9, .val (.long z20), .second, .val (.long fv), .second, .val (.long wv), .second, rv b57, rv a80, rv a165, .unset, .unset, .unset, .unset, .unset, .unset, .unset, .unset, .unset, .unset] [(.long z20), .null, .null, (.ref a80), (.ref a80)]))) (fun t k => XS.lload X242.here hx rfl (hb hby at_125) rfl k) ?_
      refine own_go (B := (T242.setTop (mkF m 128 #[.val (.long p0), .second, .val (.long p1), .second, iv p2, iv p3, .val (.long p4), .second, iv p5, iv z9, .val (.long z20), .second, .val (.long fv), .second, .val (.long wv), .second, rv b57, rv a80, rv a165, .unset, .unset, .unset, .unset, .unset, .unset, .unset, .unset, .unset, .unset] [(.long (1 : Int64)), (.long z20), .null, .null, (.ref a80), (.ref a80)]))) (fun t k => XS.lconst X242.here hx rfl (hb hby at_127) k) ?_
      refine own_go (B := (T242.setTop (mkF m 129 #[.val (.long p0), .second, .val (.long p1), .second, iv p2, iv p3, .val (.long p4), .second, iv p5, iv z9, .val (.long z20), .second, .val (.long fv), .second, .val (.long wv), .second, rv b57, rv a80, rv a165, .unset, .unset, .unset, .unset, .unset, .unset, .unset, .unset, .unset, .unset] [(.long (0 : Int64)), (.long (1 : Int64)), (.long z20), .null, .null, (.ref a80), (.ref a80)]))) (fun t k => XS.lconst X242.here hx rfl (hb hby at_128) k) ?_
      refine own_go (B := (T242.setTop (mkF m 131 #[.val (.long p0), .second, .val (.long p1), .second, iv p2, iv p3, .val (.long p4), .second, iv p5, iv z9, .val (.long z20), .second, .val (.long fv), .second, .val (.long wv), .second, rv b57, rv a80, rv a165, .unset, .unset, .unset, .unset, .unset, .unset, .unset, .unset, .unset, .unset] [(.ref a165), (.long (0 : Int64)), (.long (1 : Int64)), (.long z20), .null, .null, (.ref a80), (.ref a80)]))) (fun t k => XS.aload X242.here hx rfl (hb hby at_129) rfl rfl k) ?_
      refine own_go (B := (T242.setTop (mkF m 132 #[.val (.long p0), .second, .val (.long p1), .second, iv p2, iv p3, .val (.long p4), .second, iv p5, iv z9, .val (.long z20), .second, .val (.long fv), .second, .val (.long wv), .second, rv b57, rv a80, rv a165, .unset, .unset, .unset, .unset, .unset, .unset, .unset, .unset, .unset, .unset] [(.long (0 : Int64)), (.ref a165), (.long (0 : Int64)), (.long (1 : Int64)), (.long z20), .null, .null, (.ref a80), (.ref a80)]))) (fun t k => XS.lconst X242.here hx rfl (hb hby at_131) k) ?_
      obtain ⟨cq281, kq281, qa281, qb281, qc281⟩ := isOf hZ57 rfl F276
      obtain ⟨_, _, ⟨T281, L281, k281, n281⟩, -, X281, ⟨Lc281, hQ281, l281, yy281, zz281⟩, st281⟩ := X242.virtualBack hx (y := own_y34) (z := own_y34) ho57 (mvT hZ57 w_236) (mvT hZ57 w_237) (notFace_of_selects (args := #[]) (mvT hZ57 w_239)) (mvT hZ57 w_239) (mvT hZ57 w_238) (by decide) (backOf (W := 1) (own_ma l Z a0 hw [] a80 z20 a165 dn fv (own_maxL (0 : Int64) wv) cg T242.heap n0 F243 F276 F277 g0_242 g1_242 g2_242 (own_sta_keep B16 F244 ns0) hdn hlm hdv) hZ57 w_240 w_80 (by decide) (by decide)) qa281 qc281 (g := (mkF m 132 #[.val (.long p0), .second, .val (.long p1), .second, iv p2, iv p3, .val (.long p4), .second, iv p5, iv z9, .val (.long z20), .second, .val (.long fv), .second, .val (.long wv), .second, rv b57, rv a80, rv a165, .unset, .unset, .unset, .unset, .unset, .unset, .unset, .unset, .unset, .unset] [(.long (0 : Int64)), (.ref a165), (.long (0 : Int64)), (.long (1 : Int64)), (.long z20), .null, .null, (.ref a80), (.ref a80)])) rfl (by rw [hml]; rfl) (Steps.refl _) (argsL := [.null, .null, (.long z20), (.long (1 : Int64)), (.long (0 : Int64)), (.ref a165), (.long (0 : Int64))]) (rest := [(.ref a80)]) (lenOf own_pd20 rfl) rfl (by show 2 * 0 + _ ≤ _; exact own_b rfl) (hb hby at_132) (fun _ _ => ⟨rfl, rfl, (own_b rfl : 68 + 1 ≤ _), (own_b rfl : 938 + 17 ≤ _)⟩)
      dsimp only [Pt.U, Pt.locs, Pt.cells, Pt.slots] at X281 l281 yy281 zz281 st281 hQ281
      obtain ⟨b281, rfl, Nq281, K281, gz281, g0_281, g1_281⟩ := hQ281
      obtain ⟨L281, X281, N281⟩ := own_absC (K := 69) (K' := 955) X281 l281 yy281 zz281 N242 Nq281
      have gn_b281 : n0 ≤ b281 := Nat.le_trans F243 gz281
      have nb281_a4 : b281 ≠ a4 := fun q => absurd F245.lt (by rw [← q]; exact Nat.not_lt.mpr gz281)
      have nb281_b43 : b281 ≠ b43 := fun q => absurd F255.lt (by rw [← q]; exact Nat.not_lt.mpr gz281)
      have nb281_b57 : b281 ≠ b57 := fun q => absurd F265.lt (by rw [← q]; exact Nat.not_lt.mpr gz281)
      have nb281_a80 : b281 ≠ a80 := fun q => absurd F276.lt (by rw [← q]; exact Nat.not_lt.mpr gz281)
      have nb281_a165 : b281 ≠ a165 := fun q => absurd g0_242.lt (by rw [← q]; exact Nat.not_lt.mpr gz281)
      have F282 : n0 ≤ T281.heap.size := Nat.le_trans F243 K281.1
      have F283 := Keep.trans F244 K281 all0
      have F284 := Exa.keep F245 K281
      have F285 := Fld.keep F246 K281 nin0
      have F286 := Fld.keep F247 K281 nin0
      have F287 := Fld.keep F248 K281 nin0
      have F288 := Fld.keep F249 K281 nin0
      have F289 := Fld.keep F250 K281 nin0
      have F290 := Fld.keep F251 K281 nin0
      have F291 := Fld.keep F252 K281 nin0
      have F292 := Fld.keep F253 K281 nin0
      have F293 := Fld.keep F254 K281 nin0
      have F294 := Exa.keep F255 K281
      have F295 := Fld.keep F256 K281 nin0
      have F296 := Fld.keep F257 K281 nin0
      have F297 := Fld.keep F258 K281 nin0
      have F298 := Fld.keep F259 K281 nin0
      have F299 := Fld.keep F260 K281 nin0
      have F300 := Fld.keep F261 K281 nin0
      have F301 := Fld.keep F262 K281 nin0
      have F302 := Fld.keep F263 K281 nin0
      have F303 := Fld.keep F264 K281 nin0
      have F304 := Exa.keep F265 K281
      have F305 := Fld.keep F266 K281 nin0
      have F306 := Fld.keep F267 K281 nin0
      have F307 := Fld.keep F268 K281 nin0
      have F308 := Fld.keep F269 K281 nin0
      have F309 := Fld.keep F270 K281 nin0
      have F310 := Fld.keep F271 K281 nin0
      have F311 := Fld.keep F272 K281 nin0
      have F312 := Fld.keep F273 K281 nin0
      have F313 := Fld.keep F274 K281 nin0
      have F314 : T57.heap.size ≤ T281.heap.size := Nat.le_trans F275 K281.1
      have F315 := Exa.keep F276 K281
      have F316 := Fld.keep F277 K281 nin0
      have F317 := Exa.keep g0_242 K281
      have F318 := Fld.keep g1_242 K281 nin0
      have F319 := Fld.keep g2_242 K281 nin0
      refine own_tr (B := (T281.setTop (mkF m 135 #[.val (.long p0), .second, .val (.long p1), .second, iv p2, iv p3, .val (.long p4), .second, iv p5, iv z9, .val (.long z20), .second, .val (.long fv), .second, .val (.long wv), .second, rv b57, rv a80, rv a165, .unset, .unset, .unset, .unset, .unset, .unset, .unset, .unset, .unset, .unset] [(.ref b281), (.ref a80)]))) st281 ?_
      refine own_go (B := (T281.setTop (mkF m 137 #[.val (.long p0), .second, .val (.long p1), .second, iv p2, iv p3, .val (.long p4), .second, iv p5, iv z9, .val (.long z20), .second, .val (.long fv), .second, .val (.long wv), .second, rv b57, rv a80, rv a165, .unset, .unset, .unset, .unset, .unset, .unset, .unset, .unset, .unset, .unset] [(.long z20), (.ref b281), (.ref a80)]))) (fun t k => XS.lload X281.here hx rfl (hb hby at_135) rfl k) ?_
      obtain ⟨cq320, kq320, qa320, qb320, qc320⟩ := isOf hZ57 rfl F315
      obtain ⟨_, _, ⟨T320, L320, k320, n320⟩, -, X320, ⟨Lc320, hQ320, l320, yy320, zz320⟩, st320⟩ := X281.virtualBack hx (y := own_y35) (z := own_y35) ho57 (mvT hZ57 w_301) (mvT hZ57 w_302) (notFace_of_selects (args := #[]) (mvT hZ57 w_304)) (mvT hZ57 w_304) (mvT hZ57 w_303) (by decide) (backOf (W := 0) (own_ff l Z a0 hw [] a80 b281 z20 dn (fv + (own_maxL (0 : Int64) wv)) T281.heap n0 F316 g0_281 g1_281) hZ57 w_305 w_80 (by decide) (by decide)) qa320 qc320 (g := (mkF m 137 #[.val (.long p0), .second, .val (.long p1), .second, iv p2, iv p3, .val (.long p4), .second, iv p5, iv z9, .val (.long z20), .second, .val (.long fv), .second, .val (.long wv), .second, rv b57, rv a80, rv a165, .unset, .unset, .unset, .unset, .unset, .unset, .unset, .unset, .unset, .unset] [(.long z20), (.ref b281), (.ref a80)])) rfl (by rw [hml]; rfl) (Steps.refl _) (argsL := [(.ref b281), (.long z20)]) (rest := []) (lenOf own_pd21 rfl) rfl (by show 2 * 0 + _ ≤ _; exact own_b rfl) (hb hby at_137) (fun _ _ => ⟨rfl, rfl, (own_b rfl : 69 + 0 ≤ _), (own_b rfl : 955 + 0 ≤ _)⟩)
      dsimp only [Pt.U, Pt.locs, Pt.cells, Pt.slots] at X320 l320 yy320 zz320 st320 hQ320
      obtain ⟨rfl, Nq320, eq320⟩ := hQ320
      obtain ⟨L320, X320, N320⟩ := own_absC (K := 69) (K' := 955) X320 l320 yy320 zz320 N281 Nq320
      have e320 : T320.heap = T281.heap := eq320
      refine own_tr (B := (T320.setTop (mkF m 140 #[.val (.long p0), .second, .val (.long p1), .second, iv p2, iv p3, .val (.long p4), .second, iv p5, iv z9, .val (.long z20), .second, .val (.long fv), .second, .val (.long wv), .second, rv b57, rv a80, rv a165, .unset, .unset, .unset, .unset, .unset, .unset, .unset, .unset, .unset, .unset] [(.long (own_fresh (fv + (own_maxL (0 : Int64) wv)) dn))]))) st320 ?_
      obtain ⟨z140, hz140⟩ : ∃ z : Int64, z = (own_fresh (fv + (own_maxL (0 : Int64) wv)) dn) := ⟨_, rfl⟩
      rw [← hz140]
      refine own_go (B := (T320.setTop (mkF m 142 #[.val (.long p0), .second, .val (.long p1), .second, iv p2, iv p3, .val (.long p4), .second, iv p5, iv z9, .val (.long z20), .second, .val (.long fv), .second, .val (.long wv), .second, rv b57, rv a80, rv a165, .val (.long z140), .second, .unset, .unset, .unset, .unset, .unset, .unset, .unset, .unset] []))) (fun t k => XS.lstore X320.here hx rfl (hb hby at_140) rfl (l' := #[.val (.long p0), .second, .val (.long p1), .second, iv p2, iv p3, .val (.long p4), .second, iv p5, iv z9, .val (.long z20), .second, .val (.long fv), .second, .val (.long wv), .second, rv b57, rv a80, rv a165, .val (.long z140), .second, .unset, .unset, .unset, .unset, .unset, .unset, .unset, .unset]) rfl k) ?_
      refine own_go (B := (T320.setTop (mkF m 144 #[.val (.long p0), .second, .val (.long p1), .second, iv p2, iv p3, .val (.long p4), .second, iv p5, iv z9, .val (.long z20), .second, .val (.long fv), .second, .val (.long wv), .second, rv b57, rv a80, rv a165, .val (.long z140), .second, .unset, .unset, .unset, .unset, .unset, .unset, .unset, .unset] [(.long fv)]))) (fun t k => XS.lload X320.here hx rfl (hb hby at_142) rfl k) ?_
      refine own_go (B := (T320.setTop (mkF m 146 #[.val (.long p0), .second, .val (.long p1), .second, iv p2, iv p3, .val (.long p4), .second, iv p5, iv z9, .val (.long z20), .second, .val (.long fv), .second, .val (.long wv), .second, rv b57, rv a80, rv a165, .val (.long z140), .second, .unset, .unset, .unset, .unset, .unset, .unset, .unset, .unset] [(.long wv), (.long fv)]))) (fun t k => XS.lload X320.here hx rfl (hb hby at_144) rfl k) ?_
      refine own_go (B := (T320.setTop (mkF m 147 #[.val (.long p0), .second, .val (.long p1), .second, iv p2, iv p3, .val (.long p4), .second, iv p5, iv z9, .val (.long z20), .second, .val (.long fv), .second, .val (.long wv), .second, rv b57, rv a80, rv a165, .val (.long z140), .second, .unset, .unset, .unset, .unset, .unset, .unset, .unset, .unset] [(.long (fv + wv))]))) (fun t k => XS.ladd (x := fv) (y := wv) X320.here hx rfl (hb hby at_146) rfl k) ?_
      obtain ⟨z147, hz147⟩ : ∃ z : Int64, z = (fv + wv) := ⟨_, rfl⟩
      rw [← hz147]
      refine own_go (B := (T320.setTop (mkF m 149 #[.val (.long p0), .second, .val (.long p1), .second, iv p2, iv p3, .val (.long p4), .second, iv p5, iv z9, .val (.long z20), .second, .val (.long fv), .second, .val (.long wv), .second, rv b57, rv a80, rv a165, .val (.long z140), .second, .val (.long z147), .second, .unset, .unset, .unset, .unset, .unset, .unset] []))) (fun t k => XS.lstore X320.here hx rfl (hb hby at_147) rfl (l' := #[.val (.long p0), .second, .val (.long p1), .second, iv p2, iv p3, .val (.long p4), .second, iv p5, iv z9, .val (.long z20), .second, .val (.long fv), .second, .val (.long wv), .second, rv b57, rv a80, rv a165, .val (.long z140), .second, .val (.long z147), .second, .unset, .unset, .unset, .unset, .unset, .unset]) rfl k) ?_
      refine own_go (B := (T320.setTop (mkF m 151 #[.val (.long p0), .second, .val (.long p1), .second, iv p2, iv p3, .val (.long p4), .second, iv p5, iv z9, .val (.long z20), .second, .val (.long fv), .second, .val (.long wv), .second, rv b57, rv a80, rv a165, .val (.long z140), .second, .val (.long z147), .second, .unset, .unset, .unset, .unset, .unset, .unset] [(.int z9)]))) (fun t k => XS.iload X320.here hx rfl (hb hby at_149) rfl k) ?_
      refine own_go (B := (T320.setTop (mkF m 152 #[.val (.long p0), .second, .val (.long p1), .second, iv p2, iv p3, .val (.long p4), .second, iv p5, iv z9, .val (.long z20), .second, .val (.long fv), .second, .val (.long wv), .second, rv b57, rv a80, rv a165, .val (.long z140), .second, .val (.long z147), .second, .unset, .unset, .unset, .unset, .unset, .unset] [(.long (z9.toInt64))]))) (fun t k => XS.i2l X320.here hx rfl (hb hby at_151) rfl k) ?_
      have lc321 := X320.ldc2Long hx ho57 (v := (1000000000 : Int64)) (mvT hZ57 w_309) (g := (mkF m 152 #[.val (.long p0), .second, .val (.long p1), .second, iv p2, iv p3, .val (.long p4), .second, iv p5, iv z9, .val (.long z20), .second, .val (.long fv), .second, .val (.long wv), .second, rv b57, rv a80, rv a165, .val (.long z140), .second, .val (.long z147), .second, .unset, .unset, .unset, .unset, .unset, .unset] [(.long (z9.toInt64))])) rfl (hb hby at_152)
      refine own_go (B := (T320.setTop (mkF m 155 #[.val (.long p0), .second, .val (.long p1), .second, iv p2, iv p3, .val (.long p4), .second, iv p5, iv z9, .val (.long z20), .second, .val (.long fv), .second, .val (.long wv), .second, rv b57, rv a80, rv a165, .val (.long z140), .second, .val (.long z147), .second, .unset, .unset, .unset, .unset, .unset, .unset] [(.long (1000000000 : Int64)), (.long (z9.toInt64))]))) lc321 ?_
      refine own_go (B := (T320.setTop (mkF m 156 #[.val (.long p0), .second, .val (.long p1), .second, iv p2, iv p3, .val (.long p4), .second, iv p5, iv z9, .val (.long z20), .second, .val (.long fv), .second, .val (.long wv), .second, rv b57, rv a80, rv a165, .val (.long z140), .second, .val (.long z147), .second, .unset, .unset, .unset, .unset, .unset, .unset] [(.long ((z9.toInt64) * (1000000000 : Int64)))]))) (fun t k => XS.lmul (x := (z9.toInt64)) (y := (1000000000 : Int64)) X320.here hx rfl (hb hby at_155) rfl k) ?_
      obtain ⟨z156, hz156⟩ : ∃ z : Int64, z = ((z9.toInt64) * (1000000000 : Int64)) := ⟨_, rfl⟩
      rw [← hz156]
      refine own_go (B := (T320.setTop (mkF m 158 #[.val (.long p0), .second, .val (.long p1), .second, iv p2, iv p3, .val (.long p4), .second, iv p5, iv z9, .val (.long z20), .second, .val (.long fv), .second, .val (.long wv), .second, rv b57, rv a80, rv a165, .val (.long z140), .second, .val (.long z147), .second, .val (.long z156), .second, .unset, .unset, .unset, .unset] []))) (fun t k => XS.lstore X320.here hx rfl (hb hby at_156) rfl (l' := #[.val (.long p0), .second, .val (.long p1), .second, iv p2, iv p3, .val (.long p4), .second, iv p5, iv z9, .val (.long z20), .second, .val (.long fv), .second, .val (.long wv), .second, rv b57, rv a80, rv a165, .val (.long z140), .second, .val (.long z147), .second, .val (.long z156), .second, .unset, .unset, .unset, .unset]) rfl k) ?_
      refine own_go (B := (T320.setTop (mkF m 160 #[.val (.long p0), .second, .val (.long p1), .second, iv p2, iv p3, .val (.long p4), .second, iv p5, iv z9, .val (.long z20), .second, .val (.long fv), .second, .val (.long wv), .second, rv b57, rv a80, rv a165, .val (.long z140), .second, .val (.long z147), .second, .val (.long z156), .second, .unset, .unset, .unset, .unset] [(.long z147)]))) (fun t k => XS.lload X320.here hx rfl (hb hby at_158) rfl k) ?_
      refine own_go (B := (T320.setTop (mkF m 162 #[.val (.long p0), .second, .val (.long p1), .second, iv p2, iv p3, .val (.long p4), .second, iv p5, iv z9, .val (.long z20), .second, .val (.long fv), .second, .val (.long wv), .second, rv b57, rv a80, rv a165, .val (.long z140), .second, .val (.long z147), .second, .val (.long z156), .second, .unset, .unset, .unset, .unset] [(.long z156), (.long z147)]))) (fun t k => XS.lload X320.here hx rfl (hb hby at_160) rfl k) ?_
      refine own_go (B := (T320.setTop (mkF m 163 #[.val (.long p0), .second, .val (.long p1), .second, iv p2, iv p3, .val (.long p4), .second, iv p5, iv z9, .val (.long z20), .second, .val (.long fv), .second, .val (.long wv), .second, rv b57, rv a80, rv a165, .val (.long z140), .second, .val (.long z147), .second, .val (.long z156), .second, .unset, .unset, .unset, .unset] [(.long (z147 + z156))]))) (fun t k => XS.ladd (x := z147) (y := z156) X320.here hx rfl (hb hby at_162) rfl k) ?_
      obtain ⟨z163, hz163⟩ : ∃ z : Int64, z = (z147 + z156) := ⟨_, rfl⟩
      rw [← hz163]
      refine own_go (B := (T320.setTop (mkF m 165 #[.val (.long p0), .second, .val (.long p1), .second, iv p2, iv p3, .val (.long p4), .second, iv p5, iv z9, .val (.long z20), .second, .val (.long fv), .second, .val (.long wv), .second, rv b57, rv a80, rv a165, .val (.long z140), .second, .val (.long z147), .second, .val (.long z156), .second, .val (.long z163), .second, .unset, .unset] []))) (fun t k => XS.lstore X320.here hx rfl (hb hby at_163) rfl (l' := #[.val (.long p0), .second, .val (.long p1), .second, iv p2, iv p3, .val (.long p4), .second, iv p5, iv z9, .val (.long z20), .second, .val (.long fv), .second, .val (.long wv), .second, rv b57, rv a80, rv a165, .val (.long z140), .second, .val (.long z147), .second, .val (.long z156), .second, .val (.long z163), .second, .unset, .unset]) rfl k) ?_
      refine own_go (B := (T320.setTop (mkF m 167 #[.val (.long p0), .second, .val (.long p1), .second, iv p2, iv p3, .val (.long p4), .second, iv p5, iv z9, .val (.long z20), .second, .val (.long fv), .second, .val (.long wv), .second, rv b57, rv a80, rv a165, .val (.long z140), .second, .val (.long z147), .second, .val (.long z156), .second, .val (.long z163), .second, .unset, .unset] [(.long z163)]))) (fun t k => XS.lload X320.here hx rfl (hb hby at_165) rfl k) ?_
      refine own_go (B := (T320.setTop (mkF m 169 #[.val (.long p0), .second, .val (.long p1), .second, iv p2, iv p3, .val (.long p4), .second, iv p5, iv z9, .val (.long z20), .second, .val (.long fv), .second, .val (.long wv), .second, rv b57, rv a80, rv a165, .val (.long z140), .second, .val (.long z147), .second, .val (.long z156), .second, .val (.long z163), .second, .unset, .unset] [(.long z147), (.long z163)]))) (fun t k => XS.lload X320.here hx rfl (hb hby at_167) rfl k) ?_
      refine own_go (B := (T320.setTop (mkF m 170 #[.val (.long p0), .second, .val (.long p1), .second, iv p2, iv p3, .val (.long p4), .second, iv p5, iv z9, .val (.long z20), .second, .val (.long fv), .second, .val (.long wv), .second, rv b57, rv a80, rv a165, .val (.long z140), .second, .val (.long z147), .second, .val (.long z156), .second, .val (.long z163), .second, .unset, .unset] [(.int (lcmpW z163 z147))]))) (fun t k => XS.lcmp (x := z163) (y := z147) X320.here hx rfl (hb hby at_169) rfl k) ?_
      refine own_lif X320 hx (hb hby at_170) (pc' := 179) (pn := 173) (by decide) (by decide) rfl (fun (hc170 : ¬ z163 < z147) => ?_) (fun (hc170 : z163 < z147) => ?_)
      · refine own_go (B := (T320.setTop (mkF m 181 #[.val (.long p0), .second, .val (.long p1), .second, iv p2, iv p3, .val (.long p4), .second, iv p5, iv z9, .val (.long z20), .second, .val (.long fv), .second, .val (.long wv), .second, rv b57, rv a80, rv a165, .val (.long z140), .second, .val (.long z147), .second, .val (.long z156), .second, .val (.long z163), .second, .unset, .unset] [(.long z163)]))) (fun t k => XS.lload X320.here hx rfl (hb hby at_179) rfl k) ?_
        refine own_go (B := (T320.setTop (mkF m 183 #[.val (.long p0), .second, .val (.long p1), .second, iv p2, iv p3, .val (.long p4), .second, iv p5, iv z9, .val (.long z20), .second, .val (.long fv), .second, .val (.long wv), .second, rv b57, rv a80, rv a165, .val (.long z140), .second, .val (.long z147), .second, .val (.long z156), .second, .val (.long z163), .second, .val (.long z163), .second] []))) (fun t k => XS.lstore X320.here hx rfl (hb hby at_181) rfl (l' := #[.val (.long p0), .second, .val (.long p1), .second, iv p2, iv p3, .val (.long p4), .second, iv p5, iv z9, .val (.long z20), .second, .val (.long fv), .second, .val (.long wv), .second, rv b57, rv a80, rv a165, .val (.long z140), .second, .val (.long z147), .second, .val (.long z156), .second, .val (.long z163), .second, .val (.long z163), .second]) rfl k) ?_
        refine own_go (B := (T320.setTop (mkF m 185 #[.val (.long p0), .second, .val (.long p1), .second, iv p2, iv p3, .val (.long p4), .second, iv p5, iv z9, .val (.long z20), .second, .val (.long fv), .second, .val (.long wv), .second, rv b57, rv a80, rv a165, .val (.long z140), .second, .val (.long z147), .second, .val (.long z156), .second, .val (.long z163), .second, .val (.long z163), .second] [(.long z140)]))) (fun t k => XS.lload X320.here hx rfl (hb hby at_183) rfl k) ?_
        refine own_go (B := (T320.setTop (mkF m 187 #[.val (.long p0), .second, .val (.long p1), .second, iv p2, iv p3, .val (.long p4), .second, iv p5, iv z9, .val (.long z20), .second, .val (.long fv), .second, .val (.long wv), .second, rv b57, rv a80, rv a165, .val (.long z140), .second, .val (.long z147), .second, .val (.long z156), .second, .val (.long z163), .second, .val (.long z163), .second] [(.long z163), (.long z140)]))) (fun t k => XS.lload X320.here hx rfl (hb hby at_185) rfl k) ?_
        refine own_go (B := (T320.setTop (mkF m 188 #[.val (.long p0), .second, .val (.long p1), .second, iv p2, iv p3, .val (.long p4), .second, iv p5, iv z9, .val (.long z20), .second, .val (.long fv), .second, .val (.long wv), .second, rv b57, rv a80, rv a165, .val (.long z140), .second, .val (.long z147), .second, .val (.long z156), .second, .val (.long z163), .second, .val (.long z163), .second] [(.int (lcmpW z140 z163))]))) (fun t k => XS.lcmp (x := z140) (y := z163) X320.here hx rfl (hb hby at_187) rfl k) ?_
        have hc188 : z140 = z163 := ((own_fin hpd hdn0 hwv hz140 hz147 hz156 hz163).1 hc170)
        refine own_lifN X320 hx (hb hby at_188) (pn := 191) rfl hc188 ?_
        refine own_go (B := (T320.setTop (mkF m 192 #[.val (.long p0), .second, .val (.long p1), .second, iv p2, iv p3, .val (.long p4), .second, iv p5, iv z9, .val (.long z20), .second, .val (.long fv), .second, .val (.long wv), .second, rv b57, rv a80, rv a165, .val (.long z140), .second, .val (.long z147), .second, .val (.long z156), .second, .val (.long z163), .second, .val (.long z163), .second] [(.int (1 : Int32))]))) (fun t k => own_iconst (v := (1 : Int32)) X320.here hx rfl (hb hby at_191) (by decide) k) ?_
        refine own_go (B := (T320.setTop (mkF m 196 #[.val (.long p0), .second, .val (.long p1), .second, iv p2, iv p3, .val (.long p4), .second, iv p5, iv z9, .val (.long z20), .second, .val (.long fv), .second, .val (.long wv), .second, rv b57, rv a80, rv a165, .val (.long z140), .second, .val (.long z147), .second, .val (.long z156), .second, .val (.long z163), .second, .val (.long z163), .second] [(.int (1 : Int32))]))) (fun t k => XS.goto X320.here hx rfl (pc0 := 192) (pc' := 196) rfl (hb hby at_192) (by decide) (by decide) k) ?_
        exact own_retWZ X320 hx hlk hS57 (by rw [e320]; exact F314) Bd.returns (hb hby at_196) (by decide) (own_b rfl) (own_b rfl) (Q := (own_law_Q Z p0 p1 p2 p3 p4 p5 ac ae ab ap am aSec aMil cg h0 n0)) ⟨rfl, N320⟩
      · have lc322 := X320.ldc2Long hx ho57 (v := (9223372036854775807 : Int64)) (mvT hZ57 w_6) (g := (mkF m 173 #[.val (.long p0), .second, .val (.long p1), .second, iv p2, iv p3, .val (.long p4), .second, iv p5, iv z9, .val (.long z20), .second, .val (.long fv), .second, .val (.long wv), .second, rv b57, rv a80, rv a165, .val (.long z140), .second, .val (.long z147), .second, .val (.long z156), .second, .val (.long z163), .second, .unset, .unset] [])) rfl (hb hby at_173)
        refine own_go (B := (T320.setTop (mkF m 176 #[.val (.long p0), .second, .val (.long p1), .second, iv p2, iv p3, .val (.long p4), .second, iv p5, iv z9, .val (.long z20), .second, .val (.long fv), .second, .val (.long wv), .second, rv b57, rv a80, rv a165, .val (.long z140), .second, .val (.long z147), .second, .val (.long z156), .second, .val (.long z163), .second, .unset, .unset] [(.long (9223372036854775807 : Int64))]))) lc322 ?_
        refine own_go (B := (T320.setTop (mkF m 181 #[.val (.long p0), .second, .val (.long p1), .second, iv p2, iv p3, .val (.long p4), .second, iv p5, iv z9, .val (.long z20), .second, .val (.long fv), .second, .val (.long wv), .second, rv b57, rv a80, rv a165, .val (.long z140), .second, .val (.long z147), .second, .val (.long z156), .second, .val (.long z163), .second, .unset, .unset] [(.long (9223372036854775807 : Int64))]))) (fun t k => XS.goto X320.here hx rfl (pc0 := 176) (pc' := 181) rfl (hb hby at_176) (by decide) (by decide) k) ?_
        refine own_go (B := (T320.setTop (mkF m 183 #[.val (.long p0), .second, .val (.long p1), .second, iv p2, iv p3, .val (.long p4), .second, iv p5, iv z9, .val (.long z20), .second, .val (.long fv), .second, .val (.long wv), .second, rv b57, rv a80, rv a165, .val (.long z140), .second, .val (.long z147), .second, .val (.long z156), .second, .val (.long z163), .second, .val (.long (9223372036854775807 : Int64)), .second] []))) (fun t k => XS.lstore X320.here hx rfl (hb hby at_181) rfl (l' := #[.val (.long p0), .second, .val (.long p1), .second, iv p2, iv p3, .val (.long p4), .second, iv p5, iv z9, .val (.long z20), .second, .val (.long fv), .second, .val (.long wv), .second, rv b57, rv a80, rv a165, .val (.long z140), .second, .val (.long z147), .second, .val (.long z156), .second, .val (.long z163), .second, .val (.long (9223372036854775807 : Int64)), .second]) rfl k) ?_
        refine own_go (B := (T320.setTop (mkF m 185 #[.val (.long p0), .second, .val (.long p1), .second, iv p2, iv p3, .val (.long p4), .second, iv p5, iv z9, .val (.long z20), .second, .val (.long fv), .second, .val (.long wv), .second, rv b57, rv a80, rv a165, .val (.long z140), .second, .val (.long z147), .second, .val (.long z156), .second, .val (.long z163), .second, .val (.long (9223372036854775807 : Int64)), .second] [(.long z140)]))) (fun t k => XS.lload X320.here hx rfl (hb hby at_183) rfl k) ?_
        refine own_go (B := (T320.setTop (mkF m 187 #[.val (.long p0), .second, .val (.long p1), .second, iv p2, iv p3, .val (.long p4), .second, iv p5, iv z9, .val (.long z20), .second, .val (.long fv), .second, .val (.long wv), .second, rv b57, rv a80, rv a165, .val (.long z140), .second, .val (.long z147), .second, .val (.long z156), .second, .val (.long z163), .second, .val (.long (9223372036854775807 : Int64)), .second] [(.long (9223372036854775807 : Int64)), (.long z140)]))) (fun t k => XS.lload X320.here hx rfl (hb hby at_185) rfl k) ?_
        refine own_go (B := (T320.setTop (mkF m 188 #[.val (.long p0), .second, .val (.long p1), .second, iv p2, iv p3, .val (.long p4), .second, iv p5, iv z9, .val (.long z20), .second, .val (.long fv), .second, .val (.long wv), .second, rv b57, rv a80, rv a165, .val (.long z140), .second, .val (.long z147), .second, .val (.long z156), .second, .val (.long z163), .second, .val (.long (9223372036854775807 : Int64)), .second] [(.int (lcmpW z140 (9223372036854775807 : Int64)))]))) (fun t k => XS.lcmp (x := z140) (y := (9223372036854775807 : Int64)) X320.here hx rfl (hb hby at_187) rfl k) ?_
        have hc188 : z140 = (9223372036854775807 : Int64) := ((own_fin hpd hdn0 hwv hz140 hz147 hz156 hz163).2 hc170)
        refine own_lifN X320 hx (hb hby at_188) (pn := 191) rfl hc188 ?_
        refine own_go (B := (T320.setTop (mkF m 192 #[.val (.long p0), .second, .val (.long p1), .second, iv p2, iv p3, .val (.long p4), .second, iv p5, iv z9, .val (.long z20), .second, .val (.long fv), .second, .val (.long wv), .second, rv b57, rv a80, rv a165, .val (.long z140), .second, .val (.long z147), .second, .val (.long z156), .second, .val (.long z163), .second, .val (.long (9223372036854775807 : Int64)), .second] [(.int (1 : Int32))]))) (fun t k => own_iconst (v := (1 : Int32)) X320.here hx rfl (hb hby at_191) (by decide) k) ?_
        refine own_go (B := (T320.setTop (mkF m 196 #[.val (.long p0), .second, .val (.long p1), .second, iv p2, iv p3, .val (.long p4), .second, iv p5, iv z9, .val (.long z20), .second, .val (.long fv), .second, .val (.long wv), .second, rv b57, rv a80, rv a165, .val (.long z140), .second, .val (.long z147), .second, .val (.long z156), .second, .val (.long z163), .second, .val (.long (9223372036854775807 : Int64)), .second] [(.int (1 : Int32))]))) (fun t k => XS.goto X320.here hx rfl (pc0 := 192) (pc' := 196) rfl (hb hby at_192) (by decide) (by decide) k) ?_
        exact own_retWZ X320 hx hlk hS57 (by rw [e320]; exact F314) Bd.returns (hb hby at_196) (by decide) (own_b rfl) (own_b rfl) (Q := (own_law_Q Z p0 p1 p2 p3 p4 p5 ac ae ab ap am aSec aMil cg h0 n0)) ⟨rfl, N320⟩
    refine own_go (B := (T2.setTop (mkF m 46 #[.val (.long p0), .second, .val (.long p1), .second, iv p2, iv p3, .val (.long p4), .second, iv p5, iv z9, .val (.long z20), .second, .val (.long fv), .second, .unset, .unset, .unset, .unset, .unset, .unset, .unset, .unset, .unset, .unset, .unset, .unset, .unset, .unset, .unset] [(.int p5)]))) (fun t k => XS.iload X2.here hx rfl (hb hby at_44) rfl k) ?_
    refine own_go (B := (T2.setTop (mkF m 47 #[.val (.long p0), .second, .val (.long p1), .second, iv p2, iv p3, .val (.long p4), .second, iv p5, iv z9, .val (.long z20), .second, .val (.long fv), .second, .unset, .unset, .unset, .unset, .unset, .unset, .unset, .unset, .unset, .unset, .unset, .unset, .unset, .unset, .unset] [(.int (2 : Int32)), (.int p5)]))) (fun t k => own_iconst (v := (2 : Int32)) X2.here hx rfl (hb hby at_46) (by decide) k) ?_
    refine own_go (B := (T2.setTop (mkF m 48 #[.val (.long p0), .second, .val (.long p1), .second, iv p2, iv p3, .val (.long p4), .second, iv p5, iv z9, .val (.long z20), .second, .val (.long fv), .second, .unset, .unset, .unset, .unset, .unset, .unset, .unset, .unset, .unset, .unset, .unset, .unset, .unset, .unset, .unset] [(.int (p5 &&& (2 : Int32)))]))) (fun t k => XS.iand (x := p5) (y := (2 : Int32)) X2.here hx rfl (hb hby at_47) rfl k) ?_
    refine own_if X2 hx (hb hby at_48) (pc' := 59) (pn := 51) (by decide) (by decide) rfl (fun (hc48 : (p5 &&& (2 : Int32)) = (0 : Int32)) => ?_) (fun (hc48 : ¬ (p5 &&& (2 : Int32)) = (0 : Int32)) => ?_)
    · refine own_go (B := (T2.setTop (mkF m 60 #[.val (.long p0), .second, .val (.long p1), .second, iv p2, iv p3, .val (.long p4), .second, iv p5, iv z9, .val (.long z20), .second, .val (.long fv), .second, .unset, .unset, .unset, .unset, .unset, .unset, .unset, .unset, .unset, .unset, .unset, .unset, .unset, .unset, .unset] [(.long (0 : Int64))]))) (fun t k => XS.lconst X2.here hx rfl (hb hby at_59) k) ?_
      exact J60 (0 : Int64) (by decide)
    · refine own_go (B := (T2.setTop (mkF m 52 #[.val (.long p0), .second, .val (.long p1), .second, iv p2, iv p3, .val (.long p4), .second, iv p5, iv z9, .val (.long z20), .second, .val (.long fv), .second, .unset, .unset, .unset, .unset, .unset, .unset, .unset, .unset, .unset, .unset, .unset, .unset, .unset, .unset, .unset] [(.long p1)]))) (fun t k => XS.lloadN X2.here hx rfl (hb hby at_51) rfl k) ?_
      have lc323 := X2.ldc2Long hx hown (v := (9223372036854775807 : Int64)) (mvT hZ w_6) (g := (mkF m 52 #[.val (.long p0), .second, .val (.long p1), .second, iv p2, iv p3, .val (.long p4), .second, iv p5, iv z9, .val (.long z20), .second, .val (.long fv), .second, .unset, .unset, .unset, .unset, .unset, .unset, .unset, .unset, .unset, .unset, .unset, .unset, .unset, .unset, .unset] [(.long p1)])) rfl (hb hby at_52)
      refine own_go (B := (T2.setTop (mkF m 55 #[.val (.long p0), .second, .val (.long p1), .second, iv p2, iv p3, .val (.long p4), .second, iv p5, iv z9, .val (.long z20), .second, .val (.long fv), .second, .unset, .unset, .unset, .unset, .unset, .unset, .unset, .unset, .unset, .unset, .unset, .unset, .unset, .unset, .unset] [(.long (9223372036854775807 : Int64)), (.long p1)]))) lc323 ?_
      refine own_go (B := (T2.setTop (mkF m 56 #[.val (.long p0), .second, .val (.long p1), .second, iv p2, iv p3, .val (.long p4), .second, iv p5, iv z9, .val (.long z20), .second, .val (.long fv), .second, .unset, .unset, .unset, .unset, .unset, .unset, .unset, .unset, .unset, .unset, .unset, .unset, .unset, .unset, .unset] [(.long (p1 &&& (9223372036854775807 : Int64)))]))) (fun t k => XS.land (x := p1) (y := (9223372036854775807 : Int64)) X2.here hx rfl (hb hby at_55) rfl k) ?_
      refine own_go (B := (T2.setTop (mkF m 60 #[.val (.long p0), .second, .val (.long p1), .second, iv p2, iv p3, .val (.long p4), .second, iv p5, iv z9, .val (.long z20), .second, .val (.long fv), .second, .unset, .unset, .unset, .unset, .unset, .unset, .unset, .unset, .unset, .unset, .unset, .unset, .unset, .unset, .unset] [(.long (p1 &&& (9223372036854775807 : Int64)))]))) (fun t k => XS.goto X2.here hx rfl (pc0 := 56) (pc' := 60) rfl (hb hby at_56) (by decide) (by decide) k) ?_
      exact J60 (p1 &&& (9223372036854775807 : Int64)) (own_mskn p1)
  refine own_go (B := (T2.setTop (mkF m 24 #[.val (.long p0), .second, .val (.long p1), .second, iv p2, iv p3, .val (.long p4), .second, iv p5, iv z9, .val (.long z20), .second, .unset, .unset, .unset, .unset, .unset, .unset, .unset, .unset, .unset, .unset, .unset, .unset, .unset, .unset, .unset, .unset, .unset] [(.int p5)]))) (fun t k => XS.iload X2.here hx rfl (hb hby at_22) rfl k) ?_
  refine own_go (B := (T2.setTop (mkF m 25 #[.val (.long p0), .second, .val (.long p1), .second, iv p2, iv p3, .val (.long p4), .second, iv p5, iv z9, .val (.long z20), .second, .unset, .unset, .unset, .unset, .unset, .unset, .unset, .unset, .unset, .unset, .unset, .unset, .unset, .unset, .unset, .unset, .unset] [(.int (1 : Int32)), (.int p5)]))) (fun t k => own_iconst (v := (1 : Int32)) X2.here hx rfl (hb hby at_24) (by decide) k) ?_
  refine own_go (B := (T2.setTop (mkF m 26 #[.val (.long p0), .second, .val (.long p1), .second, iv p2, iv p3, .val (.long p4), .second, iv p5, iv z9, .val (.long z20), .second, .unset, .unset, .unset, .unset, .unset, .unset, .unset, .unset, .unset, .unset, .unset, .unset, .unset, .unset, .unset, .unset, .unset] [(.int (p5 &&& (1 : Int32)))]))) (fun t k => XS.iand (x := p5) (y := (1 : Int32)) X2.here hx rfl (hb hby at_25) rfl k) ?_
  refine own_if X2 hx (hb hby at_26) (pc' := 41) (pn := 29) (by decide) (by decide) rfl (fun (hc26 : (p5 &&& (1 : Int32)) = (0 : Int32)) => ?_) (fun (hc26 : ¬ (p5 &&& (1 : Int32)) = (0 : Int32)) => ?_)
  · refine own_go (B := (T2.setTop (mkF m 42 #[.val (.long p0), .second, .val (.long p1), .second, iv p2, iv p3, .val (.long p4), .second, iv p5, iv z9, .val (.long z20), .second, .unset, .unset, .unset, .unset, .unset, .unset, .unset, .unset, .unset, .unset, .unset, .unset, .unset, .unset, .unset, .unset, .unset] [(.long p0)]))) (fun t k => XS.lloadN X2.here hx rfl (hb hby at_41) rfl k) ?_
    exact J42 p0
  · have lc324 := X2.ldc2Long hx hown (v := (9223372036854775807 : Int64)) (mvT hZ w_6) (g := (mkF m 29 #[.val (.long p0), .second, .val (.long p1), .second, iv p2, iv p3, .val (.long p4), .second, iv p5, iv z9, .val (.long z20), .second, .unset, .unset, .unset, .unset, .unset, .unset, .unset, .unset, .unset, .unset, .unset, .unset, .unset, .unset, .unset, .unset, .unset] [])) rfl (hb hby at_29)
    refine own_go (B := (T2.setTop (mkF m 32 #[.val (.long p0), .second, .val (.long p1), .second, iv p2, iv p3, .val (.long p4), .second, iv p5, iv z9, .val (.long z20), .second, .unset, .unset, .unset, .unset, .unset, .unset, .unset, .unset, .unset, .unset, .unset, .unset, .unset, .unset, .unset, .unset, .unset] [(.long (9223372036854775807 : Int64))]))) lc324 ?_
    refine own_go (B := (T2.setTop (mkF m 33 #[.val (.long p0), .second, .val (.long p1), .second, iv p2, iv p3, .val (.long p4), .second, iv p5, iv z9, .val (.long z20), .second, .unset, .unset, .unset, .unset, .unset, .unset, .unset, .unset, .unset, .unset, .unset, .unset, .unset, .unset, .unset, .unset, .unset] [(.long p0), (.long (9223372036854775807 : Int64))]))) (fun t k => XS.lloadN X2.here hx rfl (hb hby at_32) rfl k) ?_
    have lc325 := X2.ldc2Long hx hown (v := (4611686018427387903 : Int64)) (mvT hZ w_7) (g := (mkF m 33 #[.val (.long p0), .second, .val (.long p1), .second, iv p2, iv p3, .val (.long p4), .second, iv p5, iv z9, .val (.long z20), .second, .unset, .unset, .unset, .unset, .unset, .unset, .unset, .unset, .unset, .unset, .unset, .unset, .unset, .unset, .unset, .unset, .unset] [(.long p0), (.long (9223372036854775807 : Int64))])) rfl (hb hby at_33)
    refine own_go (B := (T2.setTop (mkF m 36 #[.val (.long p0), .second, .val (.long p1), .second, iv p2, iv p3, .val (.long p4), .second, iv p5, iv z9, .val (.long z20), .second, .unset, .unset, .unset, .unset, .unset, .unset, .unset, .unset, .unset, .unset, .unset, .unset, .unset, .unset, .unset, .unset, .unset] [(.long (4611686018427387903 : Int64)), (.long p0), (.long (9223372036854775807 : Int64))]))) lc325 ?_
    refine own_go (B := (T2.setTop (mkF m 37 #[.val (.long p0), .second, .val (.long p1), .second, iv p2, iv p3, .val (.long p4), .second, iv p5, iv z9, .val (.long z20), .second, .unset, .unset, .unset, .unset, .unset, .unset, .unset, .unset, .unset, .unset, .unset, .unset, .unset, .unset, .unset, .unset, .unset] [(.long (p0 &&& (4611686018427387903 : Int64))), (.long (9223372036854775807 : Int64))]))) (fun t k => XS.land (x := p0) (y := (4611686018427387903 : Int64)) X2.here hx rfl (hb hby at_36) rfl k) ?_
    refine own_go (B := (T2.setTop (mkF m 38 #[.val (.long p0), .second, .val (.long p1), .second, iv p2, iv p3, .val (.long p4), .second, iv p5, iv z9, .val (.long z20), .second, .unset, .unset, .unset, .unset, .unset, .unset, .unset, .unset, .unset, .unset, .unset, .unset, .unset, .unset, .unset, .unset, .unset] [(.long ((9223372036854775807 : Int64) - (p0 &&& (4611686018427387903 : Int64))))]))) (fun t k => XS.lsub (x := (9223372036854775807 : Int64)) (y := (p0 &&& (4611686018427387903 : Int64))) X2.here hx rfl (hb hby at_37) rfl k) ?_
    refine own_go (B := (T2.setTop (mkF m 42 #[.val (.long p0), .second, .val (.long p1), .second, iv p2, iv p3, .val (.long p4), .second, iv p5, iv z9, .val (.long z20), .second, .unset, .unset, .unset, .unset, .unset, .unset, .unset, .unset, .unset, .unset, .unset, .unset, .unset, .unset, .unset, .unset, .unset] [(.long ((9223372036854775807 : Int64) - (p0 &&& (4611686018427387903 : Int64))))]))) (fun t k => XS.goto X2.here hx rfl (pc0 := 38) (pc' := 42) rfl (hb hby at_38) (by decide) (by decide) k) ?_
    exact J42 ((9223372036854775807 : Int64) - (p0 &&& (4611686018427387903 : Int64)))

set_option maxRecDepth 65536 in
set_option maxHeartbeats 40000000 in
theorem own_comes {Post : Tables → Env → Array Value → State → Outcome → State → Prop} (hpost : ∀ tb e args s v u, (limb_1_1.after args s (.returned v) u = true ∧ limb_1_2.after args s (.returned v) u = true ∧ True) → ReturnedEndW s (.returned v) u (Jvm.fieldLocs frame_1_writes args s ++ Jvm.arrayLocs frame_1_arrays args s ++ Jvm.staticLocs frame_1_statics s) 136 3840 → Post tb e args s (.returned v) u) :
    ArmFor flags0 classFile x code maxLocals ret World_1 tables_1 room_1 Calls_1 rest_1 Pre_1 Post := by
  intro l hfl _ _ p e ha hc hk s m args below hf hA hF happ hP
  obtain ⟨hcalls, hrest, hpre⟩ := hP
  obtain ⟨-, -, -, hnamed, -, -, -, hat⟩ := (Spec.applies_iff hf).mp happ
  obtain ⟨hg, hn⟩ := and_e (Cond.before_iff.mp (show (Jvm.Cond.and given_1 narrow_1).before args s = true from hpre))
  obtain ⟨g0, r0⟩ := and_e hg
  obtain ⟨g1, r1⟩ := and_e r0
  obtain ⟨g2, r2⟩ := and_e r1
  obtain ⟨g3, r3⟩ := and_e r2
  obtain ⟨g4, r4⟩ := and_e r3
  obtain ⟨g5, r5⟩ := and_e r4
  obtain ⟨w0, w1, w2, w3, w4, w5, rfl⟩ : ∃ w0 w1 w2 w3 w4 w5 : Value, args = #[w0, w1, w2, w3, w4, w5] := by
    have hs : args.size = 6 := by simpa [Cond.value, given_1] using g0
    obtain ⟨L⟩ := args
    match L, hs with
    | [w0, w1, w2, w3, w4, w5], _ => exact ⟨w0, w1, w2, w3, w4, w5, rfl⟩
  have hw := fun d (hd : d ∈ tables_1) => atoms_spec (ws := Jvm.Cond.code x code maxLocals ret :: tables_1) hat d (List.mem_cons_of_mem _ hd)
  have hfit : Fit s := fun {y c} hc i hi => by
    obtain ⟨ha, rfl⟩ := Array.getElem?_eq_some_iff.mp hc
    have q := List.all_eq_true.mp ((Array.all_eq_true_iff_forall_mem.mp hF) _ (Array.getElem_mem ha)) i (List.mem_range.mpr hi)
    simpa [Array.getElem?_eq_getElem hi] using q
  obtain ⟨i0, e0⟩ := isL_v g1
  obtain rfl : w0 = (.long i0) := Option.some.inj e0
  obtain ⟨i1, e1⟩ := isL_v g2
  obtain rfl : w1 = (.long i1) := Option.some.inj e1
  obtain ⟨i2, e2⟩ := is_v g3
  obtain rfl : w2 = (.int i2) := Option.some.inj e2
  obtain ⟨i3, e3⟩ := is_v g4
  obtain rfl : w3 = (.int i3) := Option.some.inj e3
  obtain ⟨i4, e4⟩ := isL_v g5
  obtain rfl : w4 = (.long i4) := Option.some.inj e4
  obtain ⟨i5, e5⟩ := is_v r5
  obtain rfl : w5 = (.int i5) := Option.some.inj e5
  have w_23 := hw _ (List.mem_of_getElem? (l := tables_1) (i := 23) rfl)
  have w_24 := hw _ (List.mem_of_getElem? (l := tables_1) (i := 24) rfl)
  have w_26 := hw _ (List.mem_of_getElem? (l := tables_1) (i := 26) rfl)
  have w_27 := hw _ (List.mem_of_getElem? (l := tables_1) (i := 27) rfl)
  have w_46 := hw _ (List.mem_of_getElem? (l := tables_1) (i := 46) rfl)
  have w_77 := hw _ (List.mem_of_getElem? (l := tables_1) (i := 77) rfl)
  have w_92 := hw _ (List.mem_of_getElem? (l := tables_1) (i := 92) rfl)
  have w_110 := hw _ (List.mem_of_getElem? (l := tables_1) (i := 110) rfl)
  obtain ⟨nn0, nr0⟩ := and_e hn
  obtain ⟨nn1, nr1⟩ := and_e nr0
  obtain ⟨nn2, nr2⟩ := and_e nr1
  obtain ⟨nn3, nr3⟩ := and_e nr2
  obtain ⟨nn4, nr4⟩ := and_e nr3
  obtain ⟨nn5, nr5⟩ := and_e nr4
  obtain ⟨a_PERMITS, ev_PERMITS⟩ := exa_v nn0
  have E_PERMITS : Exa s s.heap a_PERMITS "com/example/sluicegate/sluicegate/rule/HotParameterRule$Counts" := Exa.start ev_PERMITS nn0
  have S_PERMITS : Sta s s.heap "com/example/sluicegate/sluicegate/rule/HotParameterRule$Counts" "PERMITS" "Lcom/example/sluicegate/sluicegate/rule/HotParameterRule$Counts;" (.ref a_PERMITS) := Sta.start ev_PERMITS (Or.inr ⟨w_23, w_24⟩)
  obtain ⟨a_FAST_FAIL, ev_FAST_FAIL⟩ := exa_v nn1
  have E_FAST_FAIL : Exa s s.heap a_FAST_FAIL "com/example/sluicegate/sluicegate/rule/HotParameterRule$Behaviour" := Exa.start ev_FAST_FAIL nn1
  have S_FAST_FAIL : Sta s s.heap "com/example/sluicegate/sluicegate/rule/HotParameterRule$Behaviour" "FAST_FAIL" "Lcom/example/sluicegate/sluicegate/rule/HotParameterRule$Behaviour;" (.ref a_FAST_FAIL) := Sta.start ev_FAST_FAIL (Or.inr ⟨w_26, w_27⟩)
  obtain ⟨a_ENTRIES, ev_ENTRIES⟩ := exa_v nn2
  have E_ENTRIES : Exa s s.heap a_ENTRIES "com/example/sluicegate/sluicegate/rule/HotParameterRule$Counts" := Exa.start ev_ENTRIES nn2
  have S_ENTRIES : Sta s s.heap "com/example/sluicegate/sluicegate/rule/HotParameterRule$Counts" "ENTRIES" "Lcom/example/sluicegate/sluicegate/rule/HotParameterRule$Counts;" (.ref a_ENTRIES) := Sta.start ev_ENTRIES (Or.inr ⟨w_23, w_46⟩)
  obtain ⟨a_UNIFORM_QUEUEING, ev_UNIFORM_QUEUEING⟩ := exa_v nn5
  have E_UNIFORM_QUEUEING : Exa s s.heap a_UNIFORM_QUEUEING "com/example/sluicegate/sluicegate/rule/HotParameterRule$Behaviour" := Exa.start ev_UNIFORM_QUEUEING nn5
  have S_UNIFORM_QUEUEING : Sta s s.heap "com/example/sluicegate/sluicegate/rule/HotParameterRule$Behaviour" "UNIFORM_QUEUEING" "Lcom/example/sluicegate/sluicegate/rule/HotParameterRule$Behaviour;" (.ref a_UNIFORM_QUEUEING) := Sta.start ev_UNIFORM_QUEUEING (Or.inr ⟨w_26, w_77⟩)
  have F_PERMITS_ordinal : Fld s s.heap a_PERMITS "java/lang/Enum" "ordinal" "I" (.int (0 : Int32)) := Fld.start ((fld_at ev_PERMITS).symm.trans (own_eqint nn3))
  have F_ENTRIES_ordinal : Fld s s.heap a_ENTRIES "java/lang/Enum" "ordinal" "I" (.int (1 : Int32)) := Fld.start ((fld_at ev_ENTRIES).symm.trans (own_eqint nn4))
  have S_SHARDS : Sta s s.heap "com/example/sluicegate/sluicegate/rule/ValueShards" "SHARDS" "I" (.int (16 : Int32)) := Sta.start (own_eqint nr5) (Or.inr ⟨w_92, w_110⟩)
  obtain ⟨hsets, hown0⟩ := atoms_of _ (rest_1_c_eq ▸ (show rest_1_c.before _ s = true from hrest))
  have hs1 := hsets _ (List.mem_of_getElem? (i := 1) rfl)
  have hs2 := hsets _ (List.mem_of_getElem? (i := 2) rfl)
  have hs8 := hsets _ (List.mem_of_getElem? (i := 8) rfl)
  have hs9 := hsets _ (List.mem_of_getElem? (i := 9) rfl)
  have hs12 := hsets _ (List.mem_of_getElem? (i := 12) rfl)
  have hs13 := hsets _ (List.mem_of_getElem? (i := 13) rfl)
  have hs16 := hsets _ (List.mem_of_getElem? (i := 16) rfl)
  have hs17 := hsets _ (List.mem_of_getElem? (i := 17) rfl)
  have hs21 := hsets _ (List.mem_of_getElem? (i := 21) rfl)
  have hs22 := hsets _ (List.mem_of_getElem? (i := 22) rfl)
  have hs25 := hsets _ (List.mem_of_getElem? (i := 25) rfl)
  have hs26 := hsets _ (List.mem_of_getElem? (i := 26) rfl)
  have hs34 := hsets _ (List.mem_of_getElem? (i := 34) rfl)
  have hs35 := hsets _ (List.mem_of_getElem? (i := 35) rfl)
  obtain ⟨am, ev_am⟩ := exa_v (Cond.before_iff.mp hs2)
  have St_am : Sta s s.heap "java/util/ImmutableCollections" "EMPTY_MAP" "Ljava/util/ImmutableCollections$MapN;" (.ref am) := Sta.start ev_am (Or.inl hs1)
  have E_am : Exa s s.heap am "java/util/ImmutableCollections$MapN" := Exa.start ev_am (Cond.before_iff.mp hs2)
  obtain ⟨aSec, ev_aSec⟩ := exa_v (Cond.before_iff.mp hs9)
  have St_aSec : Sta s s.heap "java/util/concurrent/TimeUnit" "SECONDS" "Ljava/util/concurrent/TimeUnit;" (.ref aSec) := Sta.start ev_aSec (Or.inl hs8)
  have E_aSec : Exa s s.heap aSec "java/util/concurrent/TimeUnit" := Exa.start ev_aSec (Cond.before_iff.mp hs9)
  obtain ⟨aMil, ev_aMil⟩ := exa_v (Cond.before_iff.mp hs22)
  have St_aMil : Sta s s.heap "java/util/concurrent/TimeUnit" "MILLISECONDS" "Ljava/util/concurrent/TimeUnit;" (.ref aMil) := Sta.start ev_aMil (Or.inl hs21)
  have E_aMil : Exa s s.heap aMil "java/util/concurrent/TimeUnit" := Exa.start ev_aMil (Cond.before_iff.mp hs22)
  obtain ⟨cg, ev_cg⟩ := exa_v (Cond.before_iff.mp hs35)
  have St_cg : Sta s s.heap "java/math/RoundingMode" "CEILING" "Ljava/math/RoundingMode;" (.ref cg) := Sta.start ev_cg (Or.inl hs34)
  have E_cg : Exa s s.heap cg "java/math/RoundingMode" := Exa.start ev_cg (Cond.before_iff.mp hs35)
  have F_aSec_scale : Fld s s.heap aSec "java/util/concurrent/TimeUnit" "scale" "J" (.long (1000000000 : Int64)) := Fld.start ((fld_at ev_aSec).symm.trans (own_eqlong (Cond.before_iff.mp hs12)))
  have F_aSec_maxNanos : Fld s s.heap aSec "java/util/concurrent/TimeUnit" "maxNanos" "J" (.long (9223372036 : Int64)) := Fld.start ((fld_at ev_aSec).symm.trans (own_eqlong (Cond.before_iff.mp hs13)))
  have F_aSec_maxMillis : Fld s s.heap aSec "java/util/concurrent/TimeUnit" "maxMillis" "J" (.long (9223372036854775 : Int64)) := Fld.start ((fld_at ev_aSec).symm.trans (own_eqlong (Cond.before_iff.mp hs17)))
  have F_aSec_milliRatio : Fld s s.heap aSec "java/util/concurrent/TimeUnit" "milliRatio" "I" (.int (1000 : Int32)) := Fld.start ((fld_at ev_aSec).symm.trans (own_eqint (Cond.before_iff.mp hs16)))
  have F_aMil_scale : Fld s s.heap aMil "java/util/concurrent/TimeUnit" "scale" "J" (.long (1000000 : Int64)) := Fld.start ((fld_at ev_aMil).symm.trans (own_eqlong (Cond.before_iff.mp hs25)))
  have F_aMil_maxNanos : Fld s s.heap aMil "java/util/concurrent/TimeUnit" "maxNanos" "J" (.long (9223372036854 : Int64)) := Fld.start ((fld_at ev_aMil).symm.trans (own_eqlong (Cond.before_iff.mp hs26)))
  have hne : a_PERMITS ≠ a_ENTRIES := Fld.ne F_PERMITS_ordinal F_ENTRIES_ordinal (by decide)
  obtain ⟨n, o, h1, h2, h3, _, L, rfl, ⟨rfl, N⟩, hq⟩ := own_law l s _ hw tables_1 i0 i1 i2 i3 i4 i5 a_PERMITS a_ENTRIES a_FAST_FAIL a_UNIFORM_QUEUEING am aSec aMil cg s.heap s.heap.size (Nat.le_refl _) S_PERMITS S_ENTRIES S_FAST_FAIL S_UNIFORM_QUEUEING St_am S_SHARDS St_aSec E_aSec F_aSec_scale F_aSec_maxNanos F_aSec_maxMillis F_aSec_milliRatio St_aMil E_aMil F_aMil_scale F_aMil_maxNanos St_cg hne E_aSec.lt E_aMil.lt p e ha hc hk s m _ below hf ((Spec.applies_iff_loose hf).mp happ).1 ⟨rfl, State.Warmed39.refl s, rfl⟩ trivial
  refine ⟨n, _, h1, h2, h3, hpost _ _ _ _ _ _ ⟨Cond.after_iff.mpr rfl, Cond.after_iff.mpr (eq_i res_at (Term.int_eval (1)) rfl), trivial⟩ ⟨hq.1, hq.2.1, hq.2.2.1, (hq.2.2.2.sift fun y hy => Or.inr (N y hy)).mono (by decide) (by decide)⟩⟩
theorem main_1_1 : Claimed_1_1 := own_comes fun _ _ _ _ _ _ h hF => ⟨h.1, hF⟩
theorem main_1_2 : Claimed_1_2 := own_comes fun _ _ _ _ _ _ h hF => ⟨h.2.1, hF⟩
end Jvm.Pilot.@@N@@
namespace Jvm.Pilot.@@N@@
open Jvm Jvm.ClassFile Sem Op Lib Jvm.Free Jvm.Stand Jvm.Pilot.@@N@@.Jvm.D
/-! MADE BY PROGRAM (witnessworld.py) out of the Statement's table words and the real class files: 44 classes; the members and pool entries that the words name. The judged class is class 1, her method 1. -/
namespace start1
open Jvm.ClassFile
def u (s : String) : CpInfo := .utf8 (stringToUtf16 s)
/-- a pool by its gaps: so many unusable entries, then the entry; so many at the end -/
def gap : Nat → List CpInfo → List CpInfo
  | 0, r => r
  | n + 1, r => .unusable :: gap n r
def poolList (es : List (Nat × CpInfo)) (last : Nat) : List CpInfo := es.foldr (fun e r => gap e.1 (e.2 :: r)) (gap last [])
def pool (es : List (Nat × CpInfo)) (last : Nat) : Array CpInfo := ⟨poolList es last⟩
def fileOf (pool : Array CpInfo) (this : Nat) (attrs : Array Attribute := #[]) (ms : Array MethodInfo := #[]) (fl : Nat := 33) (sup : Nat := 0) (ifs : Array Nat := #[]) (fds : Array FieldInfo := #[]) : ClassFile where
  minorVersion := 0
  majorVersion := 65
  constantPool := pool
  accessFlags := fl
  thisClass := this
  superClass := sup
  interfaces := ifs
  fields := fds
  methods := ms
  attributes := attrs
def plain (name : String) (sup : Option ClassId) : Class where
  name := name
  kind := .ordinary
  loader := none
  accessFlags := 33
  super := sup
  interfaces := #[]
  cf := none
  fields := #[]
  methods := #[]
  instanceTypes := #[]
  staticTypes := #[]
  resolved := #[]
  callSites := []
  init := .initialized
  statics := none
  mirror := none

def pool0 : Array CpInfo := pool [(5, u "<init>"), (0, u "()V"), (1, .class_ 10), (1, u "java/lang/Object")] 113

def k0c0 : Code := { maxStack := 0, maxLocals := 1, code := object_method_1_code, exceptionTable := #[], attributes := #[] }
def k0m0 : Method := { name := "<init>", desc := "()V", sig := { parameters := [], returnType := none }, accessFlags := 1, code := some k0c0 }
/-- java/lang/Object -/
def k0 : Class := { plain "java/lang/Object" none with
  accessFlags := 33
  interfaces := #[]
  cf := some (fileOf pool0 8 #[] #[{ accessFlags := 1, nameIndex := 5, descriptorIndex := 6, attributes := #[] }] 33 0 #[] #[])
  fields := #[]
  methods := #[k0m0]
  instanceTypes := #[]
  staticTypes := #[]
  resolved := Array.replicate 124 none
  statics := none }

def pool1 : Array CpInfo := pool [(2, .class_ 4), (1, u "java/lang/Object"), (0, u "<init>"), (0, u "()V"), (0, .integer 2147483647), (0, .methodref 9 10), (0, .class_ 11), (0, .nameAndType 12 13), (0, u "java/lang/Math"), (0, u "max"), (0, u "(II)I"), (0, .long 2147483647), (3, .long 9223372036854775807), (1, .long 4611686018427387903), (1, .class_ 23), (0, u "com/example/sluicegate/sluicegate/rule/HotParameterRule"), (0, .string 25), (0, u "r"), (0, .methodref 22 27), (0, .nameAndType 5 28), (0, u "(Ljava/lang/String;II)V"), (0, .methodref 22 30), (0, .nameAndType 31 32), (0, u "withDurationSeconds"), (0, u "(I)Lcom/example/sluicegate/sluicegate/rule/HotParameterRule;"), (0, .methodref 22 34), (0, .nameAndType 35 36), (0, u "withUniformQueueing"), (0, u "(J)Lcom/example/sluicegate/sluicegate/rule/HotParameterRule;"), (0, .class_ 38), (0, u "com/example/sluicegate/sluicegate/rule/PacedValues"), (0, .methodref 37 40), (0, .nameAndType 5 41), (0, u "(Lcom/example/sluicegate/sluicegate/rule/HotParameterRule;)V"), (0, .class_ 43), (0, u "com/example/sluicegate/sluicegate/rule/Slot"), (0, .methodref 42 45), (0, .nameAndType 5 46), (0, u "(J)V"), (0, .methodref 42 48), (0, .nameAndType 49 46), (0, u "waitAtLeast"), (0, .methodref 37 51), (0, .nameAndType 52 53), (0, u "made"), (0, u "(Ljava/lang/Object;Lcom/example/sluicegate/sluicegate/rule/ValueShards$Shard;JJJLcom/example/sluicegate/sluicegate/rule/Slot;J)Lcom/example/sluicegate/sluicegate/rule/HotValues$Kept;"), (0, .methodref 37 55), (0, .nameAndType 56 57), (0, u "freshFrom"), (0, u "(Lcom/example/sluicegate/sluicegate/rule/HotValues$Kept;J)J"), (0, .long 1000000000), (1, .class_ 61), (0, u "com/example/sluicegate/sluicegate/rule/PacedValuesFreshFromPinLaw"), (2, u "law"), (0, u "(JJIIJI)Z")] 14

def k1m0 : Method := { name := "<init>", desc := "()V", sig := { parameters := [], returnType := none }, accessFlags := 1, code := none }
def k1c1 : Code := { maxStack := 13, maxLocals := 29, code := code, exceptionTable := #[], attributes := #[] }
def k1m1 : Method := { name := "law", desc := "(JJIIJI)Z", sig := { parameters := [.long, .long, .int, .int, .long, .int], returnType := some .boolean }, accessFlags := 9, code := some k1c1 }
/-- com/example/sluicegate/sluicegate/rule/PacedValuesFreshFromPinLaw -/
def k1 : Class := { plain "com/example/sluicegate/sluicegate/rule/PacedValuesFreshFromPinLaw" (some 0) with
  accessFlags := 49
  interfaces := #[]
  cf := some (fileOf pool1 60 #[] #[{ accessFlags := 1, nameIndex := 5, descriptorIndex := 6, attributes := #[] }, { accessFlags := 9, nameIndex := 64, descriptorIndex := 65, attributes := #[] }] 49 2 #[] #[])
  fields := #[]
  methods := #[k1m0, k1m1]
  instanceTypes := #[]
  staticTypes := #[]
  resolved := Array.replicate 80 none
  statics := none }

def pool2 : Array CpInfo := pool [(1, .class_ 2), (0, u "java/lang/Math"), (1, .class_ 6), (1, u "java/lang/Object"), (0, u "<init>"), (0, u "()V"), (89, .class_ 100), (1, u "java/lang/Math$RandomNumberGeneratorHolder"), (20, u "(JJ)J"), (50, u "negativeZeroFloatBits"), (0, u "J"), (2, u "negativeZeroDoubleBits"), (21, u "max"), (2, u "min"), (43, u "$assertionsDisabled"), (0, u "Z"), (88, u "(II)I"), (2, u "twoToTheDoubleScaleDown"), (0, u "D"), (4, u "twoToTheDoubleScaleUp"), (9, u "E"), (3, u "PI"), (2, u "TAU"), (2, u "DEGREES_TO_RADIANS"), (0, u "RADIANS_TO_DEGREES")] 94

def k2m0 : Method := { name := "<init>", desc := "()V", sig := { parameters := [], returnType := none }, accessFlags := 2, code := none }
def k2c1 : Code := { maxStack := 2, maxLocals := 2, code := jdk_29_method_65_code, exceptionTable := #[], attributes := #[] }
def k2m1 : Method := { name := "max", desc := "(II)I", sig := { parameters := [.int, .int], returnType := some .int }, accessFlags := 9, code := some k2c1 }
def k2c2 : Code := { maxStack := 4, maxLocals := 4, code := jdk_29_method_66_code, exceptionTable := #[], attributes := #[] }
def k2m2 : Method := { name := "max", desc := "(JJ)J", sig := { parameters := [.long, .long], returnType := some .long }, accessFlags := 9, code := some k2c2 }
def k2c3 : Code := { maxStack := 4, maxLocals := 4, code := jdk_29_method_70_code, exceptionTable := #[], attributes := #[] }
def k2m3 : Method := { name := "min", desc := "(JJ)J", sig := { parameters := [.long, .long], returnType := some .long }, accessFlags := 9, code := some k2c3 }
/-- java/lang/Math -/
def k2 : Class := { plain "java/lang/Math" (some 0) with
  accessFlags := 49
  interfaces := #[]
  cf := some (fileOf pool2 1 #[.nestMembers #[98]] #[{ accessFlags := 2, nameIndex := 7, descriptorIndex := 8, attributes := #[] }, { accessFlags := 9, nameIndex := 198, descriptorIndex := 335, attributes := #[] }, { accessFlags := 9, nameIndex := 198, descriptorIndex := 121, attributes := #[] }, { accessFlags := 9, nameIndex := 201, descriptorIndex := 121, attributes := #[] }] 49 4 #[] #[{ accessFlags := 25, nameIndex := 354, descriptorIndex := 339, attributes := #[] }, { accessFlags := 25, nameIndex := 358, descriptorIndex := 339, attributes := #[] }, { accessFlags := 25, nameIndex := 361, descriptorIndex := 339, attributes := #[] }, { accessFlags := 26, nameIndex := 364, descriptorIndex := 339, attributes := #[] }, { accessFlags := 26, nameIndex := 365, descriptorIndex := 339, attributes := #[] }, { accessFlags := 26, nameIndex := 172, descriptorIndex := 173, attributes := #[] }, { accessFlags := 26, nameIndex := 176, descriptorIndex := 173, attributes := #[] }, { accessFlags := 8, nameIndex := 344, descriptorIndex := 339, attributes := #[] }, { accessFlags := 8, nameIndex := 338, descriptorIndex := 339, attributes := #[] }, { accessFlags := 4120, nameIndex := 245, descriptorIndex := 246, attributes := #[] }])
  fields := #[{ name := "E", type := .double, accessFlags := 25, slot := 0, constantValue := 0 }, { name := "PI", type := .double, accessFlags := 25, slot := 1, constantValue := 0 }, { name := "TAU", type := .double, accessFlags := 25, slot := 2, constantValue := 0 }, { name := "DEGREES_TO_RADIANS", type := .double, accessFlags := 26, slot := 3, constantValue := 0 }, { name := "RADIANS_TO_DEGREES", type := .double, accessFlags := 26, slot := 4, constantValue := 0 }, { name := "negativeZeroFloatBits", type := .long, accessFlags := 26, slot := 5, constantValue := 0 }, { name := "negativeZeroDoubleBits", type := .long, accessFlags := 26, slot := 6, constantValue := 0 }, { name := "twoToTheDoubleScaleUp", type := .double, accessFlags := 8, slot := 7, constantValue := 0 }, { name := "twoToTheDoubleScaleDown", type := .double, accessFlags := 8, slot := 8, constantValue := 0 }, { name := "$assertionsDisabled", type := .boolean, accessFlags := 4120, slot := 9, constantValue := 0 }]
  methods := #[k2m0, k2m1, k2m2, k2m3]
  instanceTypes := #[]
  staticTypes := #[.double, .double, .double, .double, .double, .long, .long, .double, .double, .boolean]
  resolved := Array.replicate 460 none
  statics := none }

def pool3 : Array CpInfo := pool [(1, .class_ 2), (0, u "com/example/sluicegate/sluicegate/rule/Rule"), (0, .class_ 4), (0, u "java/lang/Object")] 15

/-- com/example/sluicegate/sluicegate/rule/Rule -/
def k3 : Class := { plain "com/example/sluicegate/sluicegate/rule/Rule" (some 0) with
  accessFlags := 1537
  interfaces := #[]
  cf := some (fileOf pool3 1 #[] #[] 1537 3 #[] #[])
  fields := #[]
  methods := #[]
  instanceTypes := #[]
  staticTypes := #[]
  resolved := Array.replicate 20 none
  statics := none }

def pool4 : Array CpInfo := pool [(1, .class_ 2), (0, u "com/example/sluicegate/sluicegate/rule/HotParameterRule"), (2, .fieldref 6 7), (0, .class_ 8), (0, .nameAndType 9 10), (0, u "com/example/sluicegate/sluicegate/rule/HotParameterRule$Counts"), (0, u "PERMITS"), (0, u "Lcom/example/sluicegate/sluicegate/rule/HotParameterRule$Counts;"), (0, .fieldref 12 13), (0, .class_ 14), (0, .nameAndType 15 16), (0, u "com/example/sluicegate/sluicegate/rule/HotParameterRule$Behaviour"), (0, u "FAST_FAIL"), (0, u "Lcom/example/sluicegate/sluicegate/rule/HotParameterRule$Behaviour;"), (0, .interfaceMethodref 18 19), (0, .class_ 20), (0, .nameAndType 21 22), (0, u "java/util/Map"), (0, u "of"), (0, u "()Ljava/util/Map;"), (0, .methodref 1 24), (0, .nameAndType 25 26), (0, u "<init>"), (0, u "(Ljava/lang/String;IILcom/example/sluicegate/sluicegate/rule/HotParameterRule$Counts;IILcom/example/sluicegate/sluicegate/rule/HotParameterRule$Behaviour;JLjava/util/Map;)V"), (0, .methodref 28 29), (0, .class_ 30), (0, .nameAndType 25 31), (0, u "java/lang/Object"), (0, u "()V"), (0, .string 33), (0, u "resource"), (0, .methodref 35 36), (0, .class_ 37), (0, .nameAndType 38 39), (0, u "java/util/Objects"), (0, u "requireNonNull"), (0, u "(Ljava/lang/Object;Ljava/lang/String;)Ljava/lang/Object;"), (3, u "argumentIndex"), (7, .fieldref 6 52), (0, .nameAndType 53 10), (0, u "ENTRIES"), (0, .fieldref 12 55), (0, .nameAndType 56 16), (0, u "UNIFORM_QUEUEING"), (1, u "behaviour"), (7, u "burst"), (1, u "durationSeconds"), (10, u "maxQueueingMillis"), (3, .fieldref 1 84), (0, .nameAndType 33 85), (0, u "Ljava/lang/String;"), (0, .fieldref 1 87), (0, .nameAndType 43 88), (0, u "I"), (0, .fieldref 1 90), (0, .nameAndType 91 88), (0, u "count"), (0, .fieldref 1 93), (0, .nameAndType 94 10), (0, u "counts"), (0, .fieldref 1 96), (0, .nameAndType 68 88), (0, .fieldref 1 98), (0, .nameAndType 66 88), (0, .fieldref 1 100), (0, .nameAndType 58 16), (0, .fieldref 1 102), (0, .nameAndType 79 103), (0, u "J"), (0, .fieldref 1 105), (0, .nameAndType 106 107), (0, u "valueCounts"), (0, u "Ljava/util/Map;"), (7, u "withUniformQueueing"), (0, u "(J)Lcom/example/sluicegate/sluicegate/rule/HotParameterRule;"), (40, u "()I"), (38, .class_ 197), (0, u "com/example/sluicegate/sluicegate/rule/Rule"), (0, u "DEFAULT_DURATION_SECONDS"), (2, u "MOST_VALUES_KEPT"), (1, u "LAST_FILLED_SPARED"), (1, u "DEFAULT_MAX_QUEUEING_MILLIS"), (2, u "(Ljava/lang/String;II)V"), (4, u "withDurationSeconds"), (0, u "(I)Lcom/example/sluicegate/sluicegate/rule/HotParameterRule;"), (10, u "()J")] 69

def k4c0 : Code := { maxStack := 11, maxLocals := 4, code := prog_38_method_1_code, exceptionTable := #[], attributes := #[] }
def k4m0 : Method := { name := "<init>", desc := "(Ljava/lang/String;II)V", sig := { parameters := [(.object "java/lang/String"), .int, .int], returnType := none }, accessFlags := 1, code := some k4c0 }
def k4c1 : Code := { maxStack := 6, maxLocals := 11, code := prog_38_method_2_code, exceptionTable := #[], attributes := #[] }
def k4m1 : Method := { name := "<init>", desc := "(Ljava/lang/String;IILcom/example/sluicegate/sluicegate/rule/HotParameterRule$Counts;IILcom/example/sluicegate/sluicegate/rule/HotParameterRule$Behaviour;JLjava/util/Map;)V", sig := { parameters := [(.object "java/lang/String"), .int, .int, (.object "com/example/sluicegate/sluicegate/rule/HotParameterRule$Counts"), .int, .int, (.object "com/example/sluicegate/sluicegate/rule/HotParameterRule$Behaviour"), .long, (.object "java/util/Map")], returnType := none }, accessFlags := 2, code := some k4c1 }
def k4c2 : Code := { maxStack := 12, maxLocals := 2, code := prog_38_method_4_code, exceptionTable := #[], attributes := #[] }
def k4m2 : Method := { name := "withDurationSeconds", desc := "(I)Lcom/example/sluicegate/sluicegate/rule/HotParameterRule;", sig := { parameters := [.int], returnType := some (.object "com/example/sluicegate/sluicegate/rule/HotParameterRule") }, accessFlags := 1, code := some k4c2 }
def k4c3 : Code := { maxStack := 12, maxLocals := 3, code := prog_38_method_8_code, exceptionTable := #[], attributes := #[] }
def k4m3 : Method := { name := "withUniformQueueing", desc := "(J)Lcom/example/sluicegate/sluicegate/rule/HotParameterRule;", sig := { parameters := [.long], returnType := some (.object "com/example/sluicegate/sluicegate/rule/HotParameterRule") }, accessFlags := 1, code := some k4c3 }
def k4c4 : Code := { maxStack := 1, maxLocals := 1, code := prog_38_method_16_code, exceptionTable := #[], attributes := #[] }
def k4m4 : Method := { name := "durationSeconds", desc := "()I", sig := { parameters := [], returnType := some .int }, accessFlags := 1, code := some k4c4 }
def k4c5 : Code := { maxStack := 2, maxLocals := 1, code := prog_38_method_19_code, exceptionTable := #[], attributes := #[] }
def k4m5 : Method := { name := "maxQueueingMillis", desc := "()J", sig := { parameters := [], returnType := some .long }, accessFlags := 1, code := some k4c5 }
/-- com/example/sluicegate/sluicegate/rule/HotParameterRule -/
def k4 : Class := { plain "com/example/sluicegate/sluicegate/rule/HotParameterRule" (some 0) with
  accessFlags := 49
  interfaces := #[3]
  cf := some (fileOf pool4 1 #[.nestMembers #[12, 6]] #[{ accessFlags := 1, nameIndex := 25, descriptorIndex := 208, attributes := #[] }, { accessFlags := 2, nameIndex := 25, descriptorIndex := 26, attributes := #[] }, { accessFlags := 1, nameIndex := 213, descriptorIndex := 214, attributes := #[] }, { accessFlags := 1, nameIndex := 115, descriptorIndex := 116, attributes := #[] }, { accessFlags := 1, nameIndex := 68, descriptorIndex := 157, attributes := #[] }, { accessFlags := 1, nameIndex := 79, descriptorIndex := 225, attributes := #[] }] 49 28 #[196] #[{ accessFlags := 25, nameIndex := 198, descriptorIndex := 88, attributes := #[] }, { accessFlags := 25, nameIndex := 201, descriptorIndex := 88, attributes := #[] }, { accessFlags := 25, nameIndex := 203, descriptorIndex := 88, attributes := #[] }, { accessFlags := 25, nameIndex := 205, descriptorIndex := 103, attributes := #[] }, { accessFlags := 18, nameIndex := 33, descriptorIndex := 85, attributes := #[] }, { accessFlags := 18, nameIndex := 43, descriptorIndex := 88, attributes := #[] }, { accessFlags := 18, nameIndex := 91, descriptorIndex := 88, attributes := #[] }, { accessFlags := 18, nameIndex := 94, descriptorIndex := 10, attributes := #[] }, { accessFlags := 18, nameIndex := 68, descriptorIndex := 88, attributes := #[] }, { accessFlags := 18, nameIndex := 66, descriptorIndex := 88, attributes := #[] }, { accessFlags := 18, nameIndex := 58, descriptorIndex := 16, attributes := #[] }, { accessFlags := 18, nameIndex := 79, descriptorIndex := 103, attributes := #[] }, { accessFlags := 18, nameIndex := 106, descriptorIndex := 107, attributes := #[] }])
  fields := #[{ name := "DEFAULT_DURATION_SECONDS", type := .int, accessFlags := 25, slot := 0, constantValue := 0 }, { name := "MOST_VALUES_KEPT", type := .int, accessFlags := 25, slot := 1, constantValue := 0 }, { name := "LAST_FILLED_SPARED", type := .int, accessFlags := 25, slot := 2, constantValue := 0 }, { name := "DEFAULT_MAX_QUEUEING_MILLIS", type := .long, accessFlags := 25, slot := 3, constantValue := 0 }, { name := "resource", type := (.object "java/lang/String"), accessFlags := 18, slot := 0, constantValue := 0 }, { name := "argumentIndex", type := .int, accessFlags := 18, slot := 1, constantValue := 0 }, { name := "count", type := .int, accessFlags := 18, slot := 2, constantValue := 0 }, { name := "counts", type := (.object "com/example/sluicegate/sluicegate/rule/HotParameterRule$Counts"), accessFlags := 18, slot := 3, constantValue := 0 }, { name := "durationSeconds", type := .int, accessFlags := 18, slot := 4, constantValue := 0 }, { name := "burst", type := .int, accessFlags := 18, slot := 5, constantValue := 0 }, { name := "behaviour", type := (.object "com/example/sluicegate/sluicegate/rule/HotParameterRule$Behaviour"), accessFlags := 18, slot := 6, constantValue := 0 }, { name := "maxQueueingMillis", type := .long, accessFlags := 18, slot := 7, constantValue := 0 }, { name := "valueCounts", type := (.object "java/util/Map"), accessFlags := 18, slot := 8, constantValue := 0 }]
  methods := #[k4m0, k4m1, k4m2, k4m3, k4m4, k4m5]
  instanceTypes := #[(.object "java/lang/String"), .int, .int, (.object "com/example/sluicegate/sluicegate/rule/HotParameterRule$Counts"), .int, .int, (.object "com/example/sluicegate/sluicegate/rule/HotParameterRule$Behaviour"), .long, (.object "java/util/Map")]
  staticTypes := #[.int, .int, .int, .long]
  resolved := Array.replicate 295 none
  statics := none }

def pool5 : Array CpInfo := pool [(1, .class_ 2), (0, u "java/io/Serializable"), (0, .class_ 4), (0, u "java/lang/Object")] 2

/-- java/io/Serializable -/
def k5 : Class := { plain "java/io/Serializable" (some 0) with
  accessFlags := 1537
  interfaces := #[]
  cf := some (fileOf pool5 1 #[] #[] 1537 3 #[] #[])
  fields := #[]
  methods := #[]
  instanceTypes := #[]
  staticTypes := #[]
  resolved := Array.replicate 7 none
  statics := none }

def pool6 : Array CpInfo := pool [(1, .class_ 2), (0, u "java/lang/Comparable"), (0, .class_ 4), (0, u "java/lang/Object")] 7

/-- java/lang/Comparable -/
def k6 : Class := { plain "java/lang/Comparable" (some 0) with
  accessFlags := 1537
  interfaces := #[]
  cf := some (fileOf pool6 1 #[] #[] 1537 3 #[] #[])
  fields := #[]
  methods := #[]
  instanceTypes := #[]
  staticTypes := #[]
  resolved := Array.replicate 12 none
  statics := none }

def pool7 : Array CpInfo := pool [(2, .class_ 4), (1, u "java/lang/CharSequence"), (42, .class_ 48), (0, u "java/lang/CharSequence$1CodePointIterator"), (10, .class_ 60), (0, u "java/lang/CharSequence$1CharIterator"), (5, .class_ 67), (0, u "java/lang/Object")] 63

/-- java/lang/CharSequence -/
def k7 : Class := { plain "java/lang/CharSequence" (some 0) with
  accessFlags := 1537
  interfaces := #[]
  cf := some (fileOf pool7 2 #[.nestMembers #[47, 59]] #[] 1537 66 #[] #[])
  fields := #[]
  methods := #[]
  instanceTypes := #[]
  staticTypes := #[]
  resolved := Array.replicate 131 none
  statics := none }

def pool8 : Array CpInfo := pool [(1, .class_ 2), (0, u "java/lang/constant/Constable"), (0, .class_ 4), (0, u "java/lang/Object")] 6

/-- java/lang/constant/Constable -/
def k8 : Class := { plain "java/lang/constant/Constable" (some 0) with
  accessFlags := 1537
  interfaces := #[]
  cf := some (fileOf pool8 1 #[] #[] 1537 3 #[] #[])
  fields := #[]
  methods := #[]
  instanceTypes := #[]
  staticTypes := #[]
  resolved := Array.replicate 11 none
  statics := none }

def pool9 : Array CpInfo := pool [(1, .class_ 2), (0, u "java/lang/constant/ConstantDesc"), (0, .class_ 4), (0, u "java/lang/Object")] 32

/-- java/lang/constant/ConstantDesc -/
def k9 : Class := { plain "java/lang/constant/ConstantDesc" (some 0) with
  accessFlags := 1537
  interfaces := #[]
  cf := some (fileOf pool9 1 #[] #[] 1537 3 #[] #[])
  fields := #[]
  methods := #[]
  instanceTypes := #[]
  staticTypes := #[]
  resolved := Array.replicate 37 none
  statics := none }

def pool10 : Array CpInfo := pool [(2, .class_ 4), (1, u "java/lang/Object"), (0, u "<init>"), (0, u "()V"), (3, .class_ 12), (1, u "java/lang/String"), (0, u "value"), (0, u "[B"), (2, u "coder"), (0, u "B"), (2, u "hash"), (0, u "I"), (2, u "hashIsZero"), (0, u "Z"), (13, u "COMPACT_STRINGS"), (534, .class_ 576), (0, u "java/lang/CharSequence"), (22, u "CASE_INSENSITIVE_ORDER"), (0, u "Ljava/util/Comparator;"), (500, u "serialPersistentFields"), (0, u "[Ljava/io/ObjectStreamField;"), (0, .class_ 1104), (0, u "java/lang/String$CaseInsensitiveComparator"), (1, .class_ 1107), (0, u "java/io/Serializable"), (0, .class_ 1109), (0, u "java/lang/Comparable"), (0, .class_ 1111), (0, u "java/lang/constant/Constable"), (0, .class_ 1113), (0, u "java/lang/constant/ConstantDesc"), (2, u "serialVersionUID"), (0, u "J"), (3, u "REPL"), (0, u "C"), (2, u "LATIN1"), (1, u "UTF16")] 323

def k10m0 : Method := { name := "<init>", desc := "()V", sig := { parameters := [], returnType := none }, accessFlags := 1, code := none }
/-- java/lang/String -/
def k10 : Class := { plain "java/lang/String" (some 0) with
  accessFlags := 49
  interfaces := #[5, 6, 7, 8, 9]
  cf := some (fileOf pool10 10 #[.nestMembers #[1103]] #[{ accessFlags := 1, nameIndex := 5, descriptorIndex := 6, attributes := #[] }] 49 2 #[1106, 1108, 575, 1110, 1112] #[{ accessFlags := 18, nameIndex := 13, descriptorIndex := 14, attributes := #[] }, { accessFlags := 18, nameIndex := 17, descriptorIndex := 18, attributes := #[] }, { accessFlags := 2, nameIndex := 21, descriptorIndex := 22, attributes := #[] }, { accessFlags := 2, nameIndex := 25, descriptorIndex := 26, attributes := #[] }, { accessFlags := 26, nameIndex := 1116, descriptorIndex := 1117, attributes := #[] }, { accessFlags := 24, nameIndex := 40, descriptorIndex := 26, attributes := #[] }, { accessFlags := 26, nameIndex := 1101, descriptorIndex := 1102, attributes := #[] }, { accessFlags := 26, nameIndex := 1121, descriptorIndex := 1122, attributes := #[] }, { accessFlags := 25, nameIndex := 599, descriptorIndex := 600, attributes := #[] }, { accessFlags := 24, nameIndex := 1125, descriptorIndex := 18, attributes := #[] }, { accessFlags := 24, nameIndex := 1127, descriptorIndex := 18, attributes := #[] }])
  fields := #[{ name := "value", type := (.array .byte), accessFlags := 18, slot := 0, constantValue := 0 }, { name := "coder", type := .byte, accessFlags := 18, slot := 1, constantValue := 0 }, { name := "hash", type := .int, accessFlags := 2, slot := 2, constantValue := 0 }, { name := "hashIsZero", type := .boolean, accessFlags := 2, slot := 3, constantValue := 0 }, { name := "serialVersionUID", type := .long, accessFlags := 26, slot := 0, constantValue := 0 }, { name := "COMPACT_STRINGS", type := .boolean, accessFlags := 24, slot := 1, constantValue := 0 }, { name := "serialPersistentFields", type := (.array (.object "java/io/ObjectStreamField")), accessFlags := 26, slot := 2, constantValue := 0 }, { name := "REPL", type := .char, accessFlags := 26, slot := 3, constantValue := 0 }, { name := "CASE_INSENSITIVE_ORDER", type := (.object "java/util/Comparator"), accessFlags := 25, slot := 4, constantValue := 0 }, { name := "LATIN1", type := .byte, accessFlags := 24, slot := 5, constantValue := 0 }, { name := "UTF16", type := .byte, accessFlags := 24, slot := 6, constantValue := 0 }]
  methods := #[k10m0]
  instanceTypes := #[(.array .byte), .byte, .int, .boolean]
  staticTypes := #[.long, .boolean, (.array (.object "java/io/ObjectStreamField")), .char, (.object "java/util/Comparator"), .byte, .byte]
  resolved := Array.replicate 1451 none
  statics := none }

def pool11 : Array CpInfo := pool [(2, .class_ 4), (1, u "java/lang/Enum"), (0, u "name"), (0, u "Ljava/lang/String;"), (2, u "ordinal"), (0, u "I"), (1, .class_ 14), (1, u "java/lang/Object"), (4, u "hash"), (86, .class_ 108), (1, u "java/lang/Enum$EnumDesc"), (2, .class_ 112), (0, u "java/lang/constant/Constable"), (0, .class_ 114), (0, u "java/lang/Comparable"), (0, .class_ 116), (0, u "java/io/Serializable")] 87

/-- java/lang/Enum -/
def k11 : Class := { plain "java/lang/Enum" (some 0) with
  accessFlags := 1057
  interfaces := #[8, 6, 5]
  cf := some (fileOf pool11 2 #[.nestMembers #[106]] #[] 1057 12 #[111, 113, 115] #[{ accessFlags := 18, nameIndex := 5, descriptorIndex := 6, attributes := #[] }, { accessFlags := 18, nameIndex := 9, descriptorIndex := 10, attributes := #[] }, { accessFlags := 2, nameIndex := 19, descriptorIndex := 10, attributes := #[] }])
  fields := #[{ name := "name", type := (.object "java/lang/String"), accessFlags := 18, slot := 0, constantValue := 0 }, { name := "ordinal", type := .int, accessFlags := 18, slot := 1, constantValue := 0 }, { name := "hash", type := .int, accessFlags := 2, slot := 2, constantValue := 0 }]
  methods := #[]
  instanceTypes := #[(.object "java/lang/String"), .int, .int]
  staticTypes := #[]
  resolved := Array.replicate 204 none
  statics := none }

def pool12 : Array CpInfo := pool [(1, .class_ 2), (0, u "com/example/sluicegate/sluicegate/rule/HotParameterRule$Counts"), (2, u "PERMITS"), (0, u "Lcom/example/sluicegate/sluicegate/rule/HotParameterRule$Counts;"), (2, u "ENTRIES"), (2, u "$VALUES"), (0, u "[Lcom/example/sluicegate/sluicegate/rule/HotParameterRule$Counts;"), (6, .class_ 22), (1, u "java/lang/Enum"), (25, .class_ 49), (0, u "com/example/sluicegate/sluicegate/rule/HotParameterRule")] 2

/-- com/example/sluicegate/sluicegate/rule/HotParameterRule$Counts -/
def k12 : Class := { plain "com/example/sluicegate/sluicegate/rule/HotParameterRule$Counts" (some 11) with
  accessFlags := 16433
  interfaces := #[]
  cf := some (fileOf pool12 1 #[.nestHost 48] #[] 16433 20 #[] #[{ accessFlags := 16409, nameIndex := 5, descriptorIndex := 6, attributes := #[] }, { accessFlags := 16409, nameIndex := 9, descriptorIndex := 6, attributes := #[] }, { accessFlags := 4122, nameIndex := 12, descriptorIndex := 13, attributes := #[] }])
  fields := #[{ name := "PERMITS", type := (.object "com/example/sluicegate/sluicegate/rule/HotParameterRule$Counts"), accessFlags := 16409, slot := 0, constantValue := 0 }, { name := "ENTRIES", type := (.object "com/example/sluicegate/sluicegate/rule/HotParameterRule$Counts"), accessFlags := 16409, slot := 1, constantValue := 0 }, { name := "$VALUES", type := (.array (.object "com/example/sluicegate/sluicegate/rule/HotParameterRule$Counts")), accessFlags := 4122, slot := 2, constantValue := 0 }]
  methods := #[]
  instanceTypes := #[(.object "java/lang/String"), .int, .int]
  staticTypes := #[(.object "com/example/sluicegate/sluicegate/rule/HotParameterRule$Counts"), (.object "com/example/sluicegate/sluicegate/rule/HotParameterRule$Counts"), (.array (.object "com/example/sluicegate/sluicegate/rule/HotParameterRule$Counts"))]
  resolved := Array.replicate 52 none
  statics := some 0 }

def pool13 : Array CpInfo := pool [(1, .class_ 2), (0, u "com/example/sluicegate/sluicegate/rule/HotParameterRule$Behaviour"), (2, u "FAST_FAIL"), (0, u "Lcom/example/sluicegate/sluicegate/rule/HotParameterRule$Behaviour;"), (2, u "UNIFORM_QUEUEING"), (2, u "$VALUES"), (0, u "[Lcom/example/sluicegate/sluicegate/rule/HotParameterRule$Behaviour;"), (6, .class_ 22), (1, u "java/lang/Enum"), (25, .class_ 49), (0, u "com/example/sluicegate/sluicegate/rule/HotParameterRule")] 2

/-- com/example/sluicegate/sluicegate/rule/HotParameterRule$Behaviour -/
def k13 : Class := { plain "com/example/sluicegate/sluicegate/rule/HotParameterRule$Behaviour" (some 11) with
  accessFlags := 16433
  interfaces := #[]
  cf := some (fileOf pool13 1 #[.nestHost 48] #[] 16433 20 #[] #[{ accessFlags := 16409, nameIndex := 5, descriptorIndex := 6, attributes := #[] }, { accessFlags := 16409, nameIndex := 9, descriptorIndex := 6, attributes := #[] }, { accessFlags := 4122, nameIndex := 12, descriptorIndex := 13, attributes := #[] }])
  fields := #[{ name := "FAST_FAIL", type := (.object "com/example/sluicegate/sluicegate/rule/HotParameterRule$Behaviour"), accessFlags := 16409, slot := 0, constantValue := 0 }, { name := "UNIFORM_QUEUEING", type := (.object "com/example/sluicegate/sluicegate/rule/HotParameterRule$Behaviour"), accessFlags := 16409, slot := 1, constantValue := 0 }, { name := "$VALUES", type := (.array (.object "com/example/sluicegate/sluicegate/rule/HotParameterRule$Behaviour")), accessFlags := 4122, slot := 2, constantValue := 0 }]
  methods := #[]
  instanceTypes := #[(.object "java/lang/String"), .int, .int]
  staticTypes := #[(.object "com/example/sluicegate/sluicegate/rule/HotParameterRule$Behaviour"), (.object "com/example/sluicegate/sluicegate/rule/HotParameterRule$Behaviour"), (.array (.object "com/example/sluicegate/sluicegate/rule/HotParameterRule$Behaviour"))]
  resolved := Array.replicate 52 none
  statics := some 1 }

def pool14 : Array CpInfo := pool [(2, .class_ 4), (1, u "java/util/Map"), (31, .class_ 37), (0, u "java/util/Map$Entry"), (43, .fieldref 82 83), (0, .class_ 84), (0, .nameAndType 85 86), (0, u "java/util/ImmutableCollections"), (0, u "EMPTY_MAP"), (0, u "Ljava/util/ImmutableCollections$MapN;"), (6, .class_ 94), (0, u "java/lang/Object"), (13, u "of"), (0, u "()Ljava/util/Map;")] 153

def k14c0 : Code := { maxStack := 1, maxLocals := 0, code := jdk_72_method_26_code, exceptionTable := #[], attributes := #[] }
def k14m0 : Method := { name := "of", desc := "()Ljava/util/Map;", sig := { parameters := [], returnType := some (.object "java/util/Map") }, accessFlags := 9, code := some k14c0 }
/-- java/util/Map -/
def k14 : Class := { plain "java/util/Map" (some 0) with
  accessFlags := 1537
  interfaces := #[]
  cf := some (fileOf pool14 2 #[.nestMembers #[36]] #[{ accessFlags := 9, nameIndex := 108, descriptorIndex := 109, attributes := #[] }] 1537 93 #[] #[])
  fields := #[]
  methods := #[k14m0]
  instanceTypes := #[]
  staticTypes := #[]
  resolved := Array.replicate 263 none
  statics := none }

def pool15 : Array CpInfo := pool [(2, .class_ 4), (1, u "java/lang/Object"), (0, u "<init>"), (0, u "()V"), (3, .class_ 11), (0, u "java/util/ImmutableCollections$List12"), (0, .class_ 13), (0, u "java/util/ImmutableCollections$ListN"), (3, u "Z"), (29, .class_ 49), (1, u "java/util/ImmutableCollections"), (0, u "$assertionsDisabled"), (5, u "[Ljava/lang/Object;"), (5, u "EMPTY_LIST"), (0, u "Ljava/util/ImmutableCollections$ListN;"), (8, u "EMPTY_LIST_NULLS"), (22, u "SALT32L"), (0, u "J"), (2, u "REVERSE"), (6, u "archivedObjects"), (2, u "EMPTY"), (0, u "Ljava/lang/Object;"), (0, .class_ 112), (0, u "java/util/ImmutableCollections$SetN"), (5, u "EMPTY_SET"), (0, u "Ljava/util/ImmutableCollections$SetN;"), (0, .class_ 121), (0, u "java/util/ImmutableCollections$MapN"), (3, u "EMPTY_MAP"), (0, u "Ljava/util/ImmutableCollections$MapN;"), (4, u "EXPAND_FACTOR"), (0, u "I"), (36, .class_ 170), (0, u "java/util/ImmutableCollections$MapN$MapNIterator"), (0, .class_ 172), (0, u "java/util/ImmutableCollections$MapN$1"), (0, .class_ 174), (0, u "java/util/ImmutableCollections$Map1"), (0, .class_ 176), (0, u "java/util/ImmutableCollections$AbstractImmutableMap"), (0, .class_ 178), (0, u "java/util/ImmutableCollections$SetN$SetNIterator"), (0, .class_ 180), (0, u "java/util/ImmutableCollections$Set12"), (0, .class_ 182), (0, u "java/util/ImmutableCollections$Set12$1"), (0, .class_ 184), (0, u "java/util/ImmutableCollections$AbstractImmutableSet"), (0, .class_ 186), (0, u "java/util/ImmutableCollections$SubList"), (0, .class_ 188), (0, u "java/util/ImmutableCollections$ListItr"), (0, .class_ 190), (0, u "java/util/ImmutableCollections$AbstractImmutableList"), (0, .class_ 192), (0, u "java/util/ImmutableCollections$AbstractImmutableCollection"), (0, .class_ 194), (0, u "java/util/ImmutableCollections$Access"), (0, .class_ 196), (0, u "java/util/ImmutableCollections$Access$1")] 16

def k15m0 : Method := { name := "<init>", desc := "()V", sig := { parameters := [], returnType := none }, accessFlags := 2, code := none }
/-- java/util/ImmutableCollections -/
def k15 : Class := { plain "java/util/ImmutableCollections" (some 0) with
  accessFlags := 32
  interfaces := #[]
  cf := some (fileOf pool15 47 #[.nestMembers #[120, 169, 171, 173, 175, 111, 177, 179, 181, 183, 12, 10, 185, 187, 189, 191, 193, 195]] #[{ accessFlags := 2, nameIndex := 5, descriptorIndex := 6, attributes := #[] }] 32 2 #[] #[{ accessFlags := 26, nameIndex := 95, descriptorIndex := 96, attributes := #[] }, { accessFlags := 26, nameIndex := 99, descriptorIndex := 17, attributes := #[] }, { accessFlags := 10, nameIndex := 106, descriptorIndex := 56, attributes := #[] }, { accessFlags := 26, nameIndex := 109, descriptorIndex := 110, attributes := #[] }, { accessFlags := 24, nameIndex := 62, descriptorIndex := 63, attributes := #[] }, { accessFlags := 24, nameIndex := 72, descriptorIndex := 63, attributes := #[] }, { accessFlags := 24, nameIndex := 118, descriptorIndex := 119, attributes := #[] }, { accessFlags := 24, nameIndex := 125, descriptorIndex := 126, attributes := #[] }, { accessFlags := 24, nameIndex := 131, descriptorIndex := 132, attributes := #[] }, { accessFlags := 4120, nameIndex := 50, descriptorIndex := 17, attributes := #[] }])
  fields := #[{ name := "SALT32L", type := .long, accessFlags := 26, slot := 0, constantValue := 0 }, { name := "REVERSE", type := .boolean, accessFlags := 26, slot := 1, constantValue := 0 }, { name := "archivedObjects", type := (.array (.object "java/lang/Object")), accessFlags := 10, slot := 2, constantValue := 0 }, { name := "EMPTY", type := (.object "java/lang/Object"), accessFlags := 26, slot := 3, constantValue := 0 }, { name := "EMPTY_LIST", type := (.object "java/util/ImmutableCollections$ListN"), accessFlags := 24, slot := 4, constantValue := 0 }, { name := "EMPTY_LIST_NULLS", type := (.object "java/util/ImmutableCollections$ListN"), accessFlags := 24, slot := 5, constantValue := 0 }, { name := "EMPTY_SET", type := (.object "java/util/ImmutableCollections$SetN"), accessFlags := 24, slot := 6, constantValue := 0 }, { name := "EMPTY_MAP", type := (.object "java/util/ImmutableCollections$MapN"), accessFlags := 24, slot := 7, constantValue := 0 }, { name := "EXPAND_FACTOR", type := .int, accessFlags := 24, slot := 8, constantValue := 0 }, { name := "$assertionsDisabled", type := .boolean, accessFlags := 4120, slot := 9, constantValue := 0 }]
  methods := #[k15m0]
  instanceTypes := #[]
  staticTypes := #[.long, .boolean, (.array (.object "java/lang/Object")), (.object "java/lang/Object"), (.object "java/util/ImmutableCollections$ListN"), (.object "java/util/ImmutableCollections$ListN"), (.object "java/util/ImmutableCollections$SetN"), (.object "java/util/ImmutableCollections$MapN"), .int, .boolean]
  resolved := Array.replicate 213 none
  statics := some 2 }

def pool16 : Array CpInfo := pool [(2, .class_ 4), (1, u "java/lang/Object"), (0, u "<init>"), (0, u "()V"), (35, .class_ 44), (1, u "java/util/Objects"), (0, u "requireNonNull"), (48, u "(Ljava/lang/Object;Ljava/lang/String;)Ljava/lang/Object;")] 89

def k16m0 : Method := { name := "<init>", desc := "()V", sig := { parameters := [], returnType := none }, accessFlags := 2, code := none }
def k16c1 : Code := { maxStack := 3, maxLocals := 2, code := jdk_31_method_11_code, exceptionTable := #[], attributes := #[] }
def k16m1 : Method := { name := "requireNonNull", desc := "(Ljava/lang/Object;Ljava/lang/String;)Ljava/lang/Object;", sig := { parameters := [(.object "java/lang/Object"), (.object "java/lang/String")], returnType := some (.object "java/lang/Object") }, accessFlags := 9, code := some k16c1 }
/-- java/util/Objects -/
def k16 : Class := { plain "java/util/Objects" (some 0) with
  accessFlags := 49
  interfaces := #[]
  cf := some (fileOf pool16 42 #[] #[{ accessFlags := 2, nameIndex := 5, descriptorIndex := 6, attributes := #[] }, { accessFlags := 9, nameIndex := 45, descriptorIndex := 94, attributes := #[] }] 49 2 #[] #[])
  fields := #[]
  methods := #[k16m0, k16m1]
  instanceTypes := #[]
  staticTypes := #[]
  resolved := Array.replicate 184 none
  statics := none }

def pool17 : Array CpInfo := pool [(1, .methodref 2 3), (0, .class_ 4), (0, .nameAndType 5 6), (0, u "java/lang/Object"), (0, u "<init>"), (0, u "()V"), (0, .class_ 8), (0, u "com/example/sluicegate/sluicegate/rule/ValueShards"), (0, .methodref 7 3), (0, .fieldref 11 12), (0, .class_ 13), (0, .nameAndType 14 15), (0, u "com/example/sluicegate/sluicegate/rule/HotValues"), (0, u "shards"), (0, u "Lcom/example/sluicegate/sluicegate/rule/ValueShards;"), (0, .class_ 17), (0, u "java/util/concurrent/atomic/AtomicInteger"), (0, .methodref 16 3), (0, .fieldref 11 20), (0, .nameAndType 21 22), (0, u "kept"), (0, u "Ljava/util/concurrent/atomic/AtomicInteger;"), (0, .class_ 24), (0, u "java/util/concurrent/atomic/AtomicLong"), (0, .methodref 23 3), (0, .fieldref 11 27), (0, .nameAndType 28 29), (0, u "keptEver"), (0, u "Ljava/util/concurrent/atomic/AtomicLong;"), (0, .fieldref 11 31), (0, .nameAndType 32 33), (0, u "rule"), (0, u "Lcom/example/sluicegate/sluicegate/rule/HotParameterRule;"), (0, .fieldref 35 36), (0, .class_ 37), (0, .nameAndType 38 39), (0, u "java/util/concurrent/TimeUnit"), (0, u "SECONDS"), (0, u "Ljava/util/concurrent/TimeUnit;"), (0, .methodref 41 42), (0, .class_ 43), (0, .nameAndType 44 45), (0, u "com/example/sluicegate/sluicegate/rule/HotParameterRule"), (0, u "durationSeconds"), (0, u "()I"), (0, .methodref 35 47), (0, .nameAndType 48 49), (0, u "toMillis"), (0, u "(J)J"), (0, .fieldref 11 51), (0, .nameAndType 52 53), (0, u "durationMillis"), (0, u "J"), (2, .class_ 57), (0, u "java/util/Map"), (0, .fieldref 11 59), (0, .nameAndType 60 61), (0, u "setAsideByPlace"), (0, u "[Ljava/util/Map;"), (8, .class_ 71), (0, u "com/example/sluicegate/sluicegate/rule/HotValues$SetAside"), (8, .class_ 82), (1, u "com/example/sluicegate/sluicegate/rule/HotValues$Verdict"), (27, .class_ 111), (0, u "com/example/sluicegate/sluicegate/rule/HotValues$Kept"), (25, u "ordered"), (0, u "Z"), (79, u "bySoonestFresh"), (0, u "Lcom/example/sluicegate/sluicegate/rule/IndexedHeap;"), (63, u "I"), (22, u "Lcom/example/sluicegate/sluicegate/rule/HotValues$Kept;"), (18, u "leftLast"), (5, u "byPace"), (2, u "byCall"), (9, u "$assertionsDisabled"), (43, u "CALLED_FIRST"), (0, u "Ljava/util/Comparator;"), (24, u "SOONEST_FRESH"), (13, u "PACE_ENDS_FIRST"), (24, u "FILLED_FIRST"), (4, .class_ 459), (0, u "com/example/sluicegate/sluicegate/rule/HotValues$LastFilled"), (3, u "lastFilled"), (0, u "Lcom/example/sluicegate/sluicegate/rule/HotValues$LastFilled;"), (12, .long 9223372036854775807), (1, .fieldref 480 481), (0, .class_ 482), (0, .nameAndType 483 484), (0, u "java/math/RoundingMode"), (0, u "CEILING"), (0, u "Ljava/math/RoundingMode;"), (72, u "NOT_SPARED"), (2, u "EVERY_PLACE"), (0, u "MOST_SET_ASIDE"), (0, u "LEAST_SET_ASIDE"), (0, u "MOST_VALUES_SET_ASIDE"), (4, u "(Lcom/example/sluicegate/sluicegate/rule/HotParameterRule;)V"), (25, u "scaled"), (0, u "(JJJLjava/math/RoundingMode;)J")] 82

def k17c0 : Code := { maxStack := 4, maxLocals := 2, code := prog_46_method_1_code, exceptionTable := #[], attributes := #[] }
def k17m0 : Method := { name := "<init>", desc := "(Lcom/example/sluicegate/sluicegate/rule/HotParameterRule;)V", sig := { parameters := [(.object "com/example/sluicegate/sluicegate/rule/HotParameterRule")], returnType := none }, accessFlags := 0, code := some k17c0 }
def k17c1 : Code := { maxStack := 6, maxLocals := 11, code := prog_46_method_46_code, exceptionTable := #[], attributes := #[] }
def k17m1 : Method := { name := "scaled", desc := "(JJJLjava/math/RoundingMode;)J", sig := { parameters := [.long, .long, .long, (.object "java/math/RoundingMode")], returnType := some .long }, accessFlags := 8, code := some k17c1 }
/-- com/example/sluicegate/sluicegate/rule/HotValues -/
def k17 : Class := { plain "com/example/sluicegate/sluicegate/rule/HotValues" (some 0) with
  accessFlags := 1056
  interfaces := #[]
  cf := some (fileOf pool17 11 #[.nestMembers #[110, 458, 70, 80]] #[{ accessFlags := 0, nameIndex := 5, descriptorIndex := 568, attributes := #[] }, { accessFlags := 8, nameIndex := 594, descriptorIndex := 595, attributes := #[] }] 1056 2 #[] #[{ accessFlags := 26, nameIndex := 414, descriptorIndex := 389, attributes := #[] }, { accessFlags := 26, nameIndex := 428, descriptorIndex := 389, attributes := #[] }, { accessFlags := 26, nameIndex := 388, descriptorIndex := 389, attributes := #[] }, { accessFlags := 26, nameIndex := 453, descriptorIndex := 389, attributes := #[] }, { accessFlags := 26, nameIndex := 557, descriptorIndex := 283, attributes := #[] }, { accessFlags := 26, nameIndex := 560, descriptorIndex := 283, attributes := #[] }, { accessFlags := 26, nameIndex := 561, descriptorIndex := 53, attributes := #[] }, { accessFlags := 26, nameIndex := 562, descriptorIndex := 53, attributes := #[] }, { accessFlags := 26, nameIndex := 563, descriptorIndex := 283, attributes := #[] }, { accessFlags := 18, nameIndex := 32, descriptorIndex := 33, attributes := #[] }, { accessFlags := 18, nameIndex := 52, descriptorIndex := 53, attributes := #[] }, { accessFlags := 18, nameIndex := 14, descriptorIndex := 15, attributes := #[] }, { accessFlags := 18, nameIndex := 60, descriptorIndex := 61, attributes := #[] }, { accessFlags := 18, nameIndex := 21, descriptorIndex := 22, attributes := #[] }, { accessFlags := 18, nameIndex := 28, descriptorIndex := 29, attributes := #[] }, { accessFlags := 2, nameIndex := 137, descriptorIndex := 138, attributes := #[] }, { accessFlags := 2, nameIndex := 218, descriptorIndex := 219, attributes := #[] }, { accessFlags := 2, nameIndex := 331, descriptorIndex := 219, attributes := #[] }, { accessFlags := 2, nameIndex := 334, descriptorIndex := 219, attributes := #[] }, { accessFlags := 2, nameIndex := 463, descriptorIndex := 464, attributes := #[] }, { accessFlags := 2, nameIndex := 325, descriptorIndex := 306, attributes := #[] }, { accessFlags := 4120, nameIndex := 344, descriptorIndex := 138, attributes := #[] }])
  fields := #[{ name := "SOONEST_FRESH", type := (.object "java/util/Comparator"), accessFlags := 26, slot := 0, constantValue := 0 }, { name := "PACE_ENDS_FIRST", type := (.object "java/util/Comparator"), accessFlags := 26, slot := 1, constantValue := 0 }, { name := "CALLED_FIRST", type := (.object "java/util/Comparator"), accessFlags := 26, slot := 2, constantValue := 0 }, { name := "FILLED_FIRST", type := (.object "java/util/Comparator"), accessFlags := 26, slot := 3, constantValue := 0 }, { name := "NOT_SPARED", type := .int, accessFlags := 26, slot := 4, constantValue := 0 }, { name := "EVERY_PLACE", type := .int, accessFlags := 26, slot := 5, constantValue := 0 }, { name := "MOST_SET_ASIDE", type := .long, accessFlags := 26, slot := 6, constantValue := 0 }, { name := "LEAST_SET_ASIDE", type := .long, accessFlags := 26, slot := 7, constantValue := 0 }, { name := "MOST_VALUES_SET_ASIDE", type := .int, accessFlags := 26, slot := 8, constantValue := 0 }, { name := "rule", type := (.object "com/example/sluicegate/sluicegate/rule/HotParameterRule"), accessFlags := 18, slot := 0, constantValue := 0 }, { name := "durationMillis", type := .long, accessFlags := 18, slot := 1, constantValue := 0 }, { name := "shards", type := (.object "com/example/sluicegate/sluicegate/rule/ValueShards"), accessFlags := 18, slot := 2, constantValue := 0 }, { name := "setAsideByPlace", type := (.array (.object "java/util/Map")), accessFlags := 18, slot := 3, constantValue := 0 }, { name := "kept", type := (.object "java/util/concurrent/atomic/AtomicInteger"), accessFlags := 18, slot := 4, constantValue := 0 }, { name := "keptEver", type := (.object "java/util/concurrent/atomic/AtomicLong"), accessFlags := 18, slot := 5, constantValue := 0 }, { name := "ordered", type := .boolean, accessFlags := 2, slot := 6, constantValue := 0 }, { name := "bySoonestFresh", type := (.object "com/example/sluicegate/sluicegate/rule/IndexedHeap"), accessFlags := 2, slot := 7, constantValue := 0 }, { name := "byPace", type := (.object "com/example/sluicegate/sluicegate/rule/IndexedHeap"), accessFlags := 2, slot := 8, constantValue := 0 }, { name := "byCall", type := (.object "com/example/sluicegate/sluicegate/rule/IndexedHeap"), accessFlags := 2, slot := 9, constantValue := 0 }, { name := "lastFilled", type := (.object "com/example/sluicegate/sluicegate/rule/HotValues$LastFilled"), accessFlags := 2, slot := 10, constantValue := 0 }, { name := "leftLast", type := (.object "com/example/sluicegate/sluicegate/rule/HotValues$Kept"), accessFlags := 2, slot := 11, constantValue := 0 }, { name := "$assertionsDisabled", type := .boolean, accessFlags := 4120, slot := 9, constantValue := 0 }]
  methods := #[k17m0, k17m1]
  instanceTypes := #[(.object "com/example/sluicegate/sluicegate/rule/HotParameterRule"), .long, (.object "com/example/sluicegate/sluicegate/rule/ValueShards"), (.array (.object "java/util/Map")), (.object "java/util/concurrent/atomic/AtomicInteger"), (.object "java/util/concurrent/atomic/AtomicLong"), .boolean, (.object "com/example/sluicegate/sluicegate/rule/IndexedHeap"), (.object "com/example/sluicegate/sluicegate/rule/IndexedHeap"), (.object "com/example/sluicegate/sluicegate/rule/IndexedHeap"), (.object "com/example/sluicegate/sluicegate/rule/HotValues$LastFilled"), (.object "com/example/sluicegate/sluicegate/rule/HotValues$Kept")]
  staticTypes := #[(.object "java/util/Comparator"), (.object "java/util/Comparator"), (.object "java/util/Comparator"), (.object "java/util/Comparator"), .int, .int, .long, .long, .int, .boolean]
  resolved := Array.replicate 678 none
  statics := none }

def pool18 : Array CpInfo := pool [(1, .methodref 2 3), (0, .class_ 4), (0, .nameAndType 5 6), (0, u "com/example/sluicegate/sluicegate/rule/HotValues"), (0, u "<init>"), (0, u "(Lcom/example/sluicegate/sluicegate/rule/HotParameterRule;)V"), (0, .fieldref 8 9), (0, .class_ 10), (0, .nameAndType 11 12), (0, u "java/util/concurrent/TimeUnit"), (0, u "SECONDS"), (0, u "Ljava/util/concurrent/TimeUnit;"), (0, .methodref 14 15), (0, .class_ 16), (0, .nameAndType 17 18), (0, u "com/example/sluicegate/sluicegate/rule/HotParameterRule"), (0, u "durationSeconds"), (0, u "()I"), (0, .methodref 8 20), (0, .nameAndType 21 22), (0, u "toNanos"), (0, u "(J)J"), (0, .fieldref 24 25), (0, .class_ 26), (0, .nameAndType 27 28), (0, u "com/example/sluicegate/sluicegate/rule/PacedValues"), (0, u "durationNanos"), (0, u "J"), (0, .fieldref 8 30), (0, .nameAndType 31 12), (0, u "MILLISECONDS"), (0, .methodref 14 33), (0, .nameAndType 34 35), (0, u "maxQueueingMillis"), (0, u "()J"), (0, .fieldref 24 37), (0, .nameAndType 38 28), (0, u "maxQueueingNanos"), (0, .fieldref 40 41), (0, .class_ 42), (0, .nameAndType 43 44), (0, u "java/math/RoundingMode"), (0, u "CEILING"), (0, u "Ljava/math/RoundingMode;"), (0, .methodref 24 46), (0, .nameAndType 47 48), (0, u "scaled"), (0, u "(JJJLjava/math/RoundingMode;)J"), (0, .class_ 50), (0, u "com/example/sluicegate/sluicegate/rule/PacedValues$Latest"), (0, .fieldref 49 52), (0, .nameAndType 53 28), (0, u "slotNanos"), (0, .methodref 55 56), (0, .class_ 57), (0, .nameAndType 58 35), (0, u "com/example/sluicegate/sluicegate/rule/Slot"), (0, u "fromNanos"), (10, .methodref 24 70), (0, .nameAndType 71 72), (0, u "calledNanos"), (0, u "(Lcom/example/sluicegate/sluicegate/rule/Slot;J)J"), (0, .methodref 55 74), (0, .nameAndType 53 35), (0, .methodref 49 76), (0, .nameAndType 5 77), (0, u "(Ljava/lang/Object;Lcom/example/sluicegate/sluicegate/rule/ValueShards$Shard;JJJJ)V"), (7, .long 9223372036854775807), (1, .methodref 24 88), (0, .nameAndType 89 22), (0, u "permitNanos"), (10, .methodref 55 101), (0, .nameAndType 102 35), (0, u "waitNanos"), (0, .methodref 104 105), (0, .class_ 106), (0, .nameAndType 107 108), (0, u "java/lang/Math"), (0, u "min"), (0, u "(JJ)J"), (5, u "made"), (0, u "(Ljava/lang/Object;Lcom/example/sluicegate/sluicegate/rule/ValueShards$Shard;JJJLcom/example/sluicegate/sluicegate/rule/Slot;J)Lcom/example/sluicegate/sluicegate/rule/HotValues$Kept;"), (4, u "freshFrom"), (0, u "(Lcom/example/sluicegate/sluicegate/rule/HotValues$Kept;J)J")] 19

def k18c0 : Code := { maxStack := 4, maxLocals := 2, code := prog_57_method_1_code, exceptionTable := #[], attributes := #[] }
def k18m0 : Method := { name := "<init>", desc := "(Lcom/example/sluicegate/sluicegate/rule/HotParameterRule;)V", sig := { parameters := [(.object "com/example/sluicegate/sluicegate/rule/HotParameterRule")], returnType := none }, accessFlags := 0, code := some k18c0 }
def k18c1 : Code := { maxStack := 12, maxLocals := 12, code := prog_57_method_3_code, exceptionTable := #[], attributes := #[] }
def k18m1 : Method := { name := "made", desc := "(Ljava/lang/Object;Lcom/example/sluicegate/sluicegate/rule/ValueShards$Shard;JJJLcom/example/sluicegate/sluicegate/rule/Slot;J)Lcom/example/sluicegate/sluicegate/rule/HotValues$Kept;", sig := { parameters := [(.object "java/lang/Object"), (.object "com/example/sluicegate/sluicegate/rule/ValueShards$Shard"), .long, .long, .long, (.object "com/example/sluicegate/sluicegate/rule/Slot"), .long], returnType := some (.object "com/example/sluicegate/sluicegate/rule/HotValues$Kept") }, accessFlags := 0, code := some k18c1 }
def k18c2 : Code := { maxStack := 6, maxLocals := 6, code := prog_57_method_5_code, exceptionTable := #[], attributes := #[] }
def k18m2 : Method := { name := "freshFrom", desc := "(Lcom/example/sluicegate/sluicegate/rule/HotValues$Kept;J)J", sig := { parameters := [(.object "com/example/sluicegate/sluicegate/rule/HotValues$Kept"), .long], returnType := some .long }, accessFlags := 0, code := some k18c2 }
def k18c3 : Code := { maxStack := 7, maxLocals := 4, code := prog_57_method_11_code, exceptionTable := #[], attributes := #[] }
def k18m3 : Method := { name := "calledNanos", desc := "(Lcom/example/sluicegate/sluicegate/rule/Slot;J)J", sig := { parameters := [(.object "com/example/sluicegate/sluicegate/rule/Slot"), .long], returnType := some .long }, accessFlags := 2, code := some k18c3 }
def k18c4 : Code := { maxStack := 7, maxLocals := 3, code := prog_57_method_12_code, exceptionTable := #[], attributes := #[] }
def k18m4 : Method := { name := "permitNanos", desc := "(J)J", sig := { parameters := [.long], returnType := some .long }, accessFlags := 2, code := some k18c4 }
/-- com/example/sluicegate/sluicegate/rule/PacedValues -/
def k18 : Class := { plain "com/example/sluicegate/sluicegate/rule/PacedValues" (some 17) with
  accessFlags := 32
  interfaces := #[]
  cf := some (fileOf pool18 24 #[.nestMembers #[49]] #[{ accessFlags := 0, nameIndex := 5, descriptorIndex := 6, attributes := #[] }, { accessFlags := 0, nameIndex := 114, descriptorIndex := 115, attributes := #[] }, { accessFlags := 0, nameIndex := 120, descriptorIndex := 121, attributes := #[] }, { accessFlags := 2, nameIndex := 71, descriptorIndex := 72, attributes := #[] }, { accessFlags := 2, nameIndex := 89, descriptorIndex := 22, attributes := #[] }] 32 2 #[] #[{ accessFlags := 18, nameIndex := 27, descriptorIndex := 28, attributes := #[] }, { accessFlags := 18, nameIndex := 38, descriptorIndex := 28, attributes := #[] }])
  fields := #[{ name := "durationNanos", type := .long, accessFlags := 18, slot := 12, constantValue := 0 }, { name := "maxQueueingNanos", type := .long, accessFlags := 18, slot := 13, constantValue := 0 }]
  methods := #[k18m0, k18m1, k18m2, k18m3, k18m4]
  instanceTypes := #[(.object "com/example/sluicegate/sluicegate/rule/HotParameterRule"), .long, (.object "com/example/sluicegate/sluicegate/rule/ValueShards"), (.array (.object "java/util/Map")), (.object "java/util/concurrent/atomic/AtomicInteger"), (.object "java/util/concurrent/atomic/AtomicLong"), .boolean, (.object "com/example/sluicegate/sluicegate/rule/IndexedHeap"), (.object "com/example/sluicegate/sluicegate/rule/IndexedHeap"), (.object "com/example/sluicegate/sluicegate/rule/IndexedHeap"), (.object "com/example/sluicegate/sluicegate/rule/HotValues$LastFilled"), (.object "com/example/sluicegate/sluicegate/rule/HotValues$Kept"), .long, .long]
  staticTypes := #[]
  resolved := (Array.replicate 141 none).setIfInBounds 51 (some (.field 31 0))
  statics := none }

def pool19 : Array CpInfo := pool [(1, .methodref 2 3), (0, .class_ 4), (0, .nameAndType 5 6), (0, u "java/lang/Object"), (0, u "<init>"), (0, u "()V"), (0, .class_ 8), (0, u "com/example/sluicegate/sluicegate/rule/SpinLock"), (0, .methodref 7 10), (0, .nameAndType 5 11), (0, u "(I)V"), (0, .fieldref 13 14), (0, .class_ 15), (0, .nameAndType 16 17), (0, u "com/example/sluicegate/sluicegate/rule/ValueShards"), (0, u "wideLock"), (0, u "Lcom/example/sluicegate/sluicegate/rule/SpinLock;"), (0, .fieldref 13 19), (0, .nameAndType 20 21), (0, u "SHARDS"), (0, u "I"), (0, .class_ 23), (0, u "com/example/sluicegate/sluicegate/rule/ValueShards$Shard"), (0, .fieldref 13 25), (0, .nameAndType 26 27), (0, u "shards"), (0, u "[Lcom/example/sluicegate/sluicegate/rule/ValueShards$Shard;"), (0, .methodref 22 10), (7, u "SHARD_SHIFT"), (64, u "$assertionsDisabled"), (0, u "Z"), (2, u "heldShards"), (0, u "J"), (36, u "SPREAD"), (1, u "WIDE")] 25

def k19c0 : Code := { maxStack := 5, maxLocals := 2, code := prog_82_method_1_code, exceptionTable := #[], attributes := #[] }
def k19m0 : Method := { name := "<init>", desc := "()V", sig := { parameters := [], returnType := none }, accessFlags := 0, code := some k19c0 }
/-- com/example/sluicegate/sluicegate/rule/ValueShards -/
def k19 : Class := { plain "com/example/sluicegate/sluicegate/rule/ValueShards" (some 0) with
  accessFlags := 32
  interfaces := #[]
  cf := some (fileOf pool19 13 #[.nestMembers #[22]] #[{ accessFlags := 0, nameIndex := 5, descriptorIndex := 6, attributes := #[] }] 32 2 #[] #[{ accessFlags := 26, nameIndex := 20, descriptorIndex := 21, attributes := #[] }, { accessFlags := 26, nameIndex := 36, descriptorIndex := 21, attributes := #[] }, { accessFlags := 26, nameIndex := 143, descriptorIndex := 21, attributes := #[] }, { accessFlags := 24, nameIndex := 145, descriptorIndex := 106, attributes := #[] }, { accessFlags := 18, nameIndex := 26, descriptorIndex := 27, attributes := #[] }, { accessFlags := 18, nameIndex := 16, descriptorIndex := 17, attributes := #[] }, { accessFlags := 2, nameIndex := 105, descriptorIndex := 106, attributes := #[] }, { accessFlags := 4120, nameIndex := 101, descriptorIndex := 102, attributes := #[] }])
  fields := #[{ name := "SHARDS", type := .int, accessFlags := 26, slot := 0, constantValue := 0 }, { name := "SHARD_SHIFT", type := .int, accessFlags := 26, slot := 1, constantValue := 0 }, { name := "SPREAD", type := .int, accessFlags := 26, slot := 2, constantValue := 0 }, { name := "WIDE", type := .long, accessFlags := 24, slot := 3, constantValue := 0 }, { name := "shards", type := (.array (.object "com/example/sluicegate/sluicegate/rule/ValueShards$Shard")), accessFlags := 18, slot := 0, constantValue := 0 }, { name := "wideLock", type := (.object "com/example/sluicegate/sluicegate/rule/SpinLock"), accessFlags := 18, slot := 1, constantValue := 0 }, { name := "heldShards", type := .long, accessFlags := 2, slot := 2, constantValue := 0 }, { name := "$assertionsDisabled", type := .boolean, accessFlags := 4120, slot := 4, constantValue := 0 }]
  methods := #[k19m0]
  instanceTypes := #[(.array (.object "com/example/sluicegate/sluicegate/rule/ValueShards$Shard")), (.object "com/example/sluicegate/sluicegate/rule/SpinLock"), .long]
  staticTypes := #[.int, .int, .int, .long, .boolean]
  resolved := Array.replicate 171 none
  statics := some 3 }

def pool20 : Array CpInfo := pool [(1, .class_ 2), (0, u "com/example/sluicegate/sluicegate/rule/SpinLock"), (0, .methodref 4 5), (0, .class_ 6), (0, .nameAndType 7 8), (0, u "java/lang/Object"), (0, u "<init>"), (0, u "()V"), (0, .fieldref 1 10), (0, .nameAndType 11 12), (0, u "words"), (0, u "[J"), (2, u "WORD"), (0, u "Ljava/lang/invoke/VarHandle;"), (36, u "SPINS_BEFORE_YIELDING"), (0, u "I"), (2, u "PADDING"), (1, u "LOCKED"), (0, u "(I)V")] 11

def k20c0 : Code := { maxStack := 3, maxLocals := 2, code := prog_77_method_1_code, exceptionTable := #[], attributes := #[] }
def k20m0 : Method := { name := "<init>", desc := "(I)V", sig := { parameters := [.int], returnType := none }, accessFlags := 0, code := some k20c0 }
/-- com/example/sluicegate/sluicegate/rule/SpinLock -/
def k20 : Class := { plain "com/example/sluicegate/sluicegate/rule/SpinLock" (some 0) with
  accessFlags := 32
  interfaces := #[]
  cf := some (fileOf pool20 1 #[] #[{ accessFlags := 0, nameIndex := 7, descriptorIndex := 60, attributes := #[] }] 32 4 #[] #[{ accessFlags := 26, nameIndex := 53, descriptorIndex := 54, attributes := #[] }, { accessFlags := 26, nameIndex := 57, descriptorIndex := 54, attributes := #[] }, { accessFlags := 26, nameIndex := 59, descriptorIndex := 54, attributes := #[] }, { accessFlags := 24, nameIndex := 15, descriptorIndex := 16, attributes := #[] }, { accessFlags := 16, nameIndex := 11, descriptorIndex := 12, attributes := #[] }])
  fields := #[{ name := "SPINS_BEFORE_YIELDING", type := .int, accessFlags := 26, slot := 0, constantValue := 0 }, { name := "PADDING", type := .int, accessFlags := 26, slot := 1, constantValue := 0 }, { name := "LOCKED", type := .int, accessFlags := 26, slot := 2, constantValue := 0 }, { name := "WORD", type := (.object "java/lang/invoke/VarHandle"), accessFlags := 24, slot := 3, constantValue := 0 }, { name := "words", type := (.array .long), accessFlags := 16, slot := 0, constantValue := 0 }]
  methods := #[k20m0]
  instanceTypes := #[(.array .long)]
  staticTypes := #[.int, .int, .int, (.object "java/lang/invoke/VarHandle")]
  resolved := Array.replicate 72 none
  statics := none }

def pool21 : Array CpInfo := pool [(1, .methodref 2 3), (0, .class_ 4), (0, .nameAndType 5 6), (0, u "com/example/sluicegate/sluicegate/rule/SpinLock"), (0, u "<init>"), (0, u "(I)V"), (0, .class_ 8), (0, u "java/util/HashMap"), (0, .methodref 7 10), (0, .nameAndType 5 11), (0, u "()V"), (0, .fieldref 13 14), (0, .class_ 15), (0, .nameAndType 16 17), (0, u "com/example/sluicegate/sluicegate/rule/ValueShards$Shard"), (0, u "kept"), (0, u "Ljava/util/Map;"), (0, .fieldref 13 19), (0, .nameAndType 20 21), (0, u "place"), (0, u "I"), (16, u "mostKept"), (18, u "ROOM_GIVEN_BACK_PAST"), (18, .class_ 77), (0, u "com/example/sluicegate/sluicegate/rule/ValueShards")] 2

def k21c0 : Code := { maxStack := 3, maxLocals := 2, code := prog_83_method_1_code, exceptionTable := #[], attributes := #[] }
def k21m0 : Method := { name := "<init>", desc := "(I)V", sig := { parameters := [.int], returnType := none }, accessFlags := 0, code := some k21c0 }
/-- com/example/sluicegate/sluicegate/rule/ValueShards$Shard -/
def k21 : Class := { plain "com/example/sluicegate/sluicegate/rule/ValueShards$Shard" (some 20) with
  accessFlags := 32
  interfaces := #[]
  cf := some (fileOf pool21 13 #[.nestHost 76] #[{ accessFlags := 0, nameIndex := 5, descriptorIndex := 6, attributes := #[] }] 32 2 #[] #[{ accessFlags := 24, nameIndex := 57, descriptorIndex := 21, attributes := #[] }, { accessFlags := 18, nameIndex := 20, descriptorIndex := 21, attributes := #[] }, { accessFlags := 2, nameIndex := 16, descriptorIndex := 17, attributes := #[] }, { accessFlags := 2, nameIndex := 38, descriptorIndex := 21, attributes := #[] }])
  fields := #[{ name := "ROOM_GIVEN_BACK_PAST", type := .int, accessFlags := 24, slot := 0, constantValue := 0 }, { name := "place", type := .int, accessFlags := 18, slot := 1, constantValue := 0 }, { name := "kept", type := (.object "java/util/Map"), accessFlags := 2, slot := 2, constantValue := 0 }, { name := "mostKept", type := .int, accessFlags := 2, slot := 3, constantValue := 0 }]
  methods := #[k21m0]
  instanceTypes := #[(.array .long), .int, (.object "java/util/Map"), .int]
  staticTypes := #[.int]
  resolved := Array.replicate 80 none
  statics := none }

def pool22 : Array CpInfo := pool [(1, .methodref 2 3), (0, .class_ 4), (0, .nameAndType 5 6), (0, u "java/lang/Object"), (0, u "<init>"), (0, u "()V"), (1, .class_ 10), (1, u "java/util/AbstractMap"), (42, .class_ 54), (0, u "java/util/Map"), (9, u "keySet"), (0, u "Ljava/util/Set;"), (0, .class_ 67), (0, u "java/util/AbstractMap$1"), (5, u "values"), (0, u "Ljava/util/Collection;"), (0, .class_ 76), (0, u "java/util/AbstractMap$2"), (104, .class_ 182), (0, u "java/util/AbstractMap$ViewCollection"), (0, .class_ 184), (0, u "java/util/AbstractMap$SimpleImmutableEntry"), (0, .class_ 186), (0, u "java/util/AbstractMap$SimpleEntry"), (0, .class_ 188), (0, u "java/util/AbstractMap$2$1"), (0, .class_ 190), (0, u "java/util/AbstractMap$1$1")] 5

def k22c0 : Code := { maxStack := 1, maxLocals := 1, code := jdk_71_method_1_code, exceptionTable := #[], attributes := #[] }
def k22m0 : Method := { name := "<init>", desc := "()V", sig := { parameters := [], returnType := none }, accessFlags := 4, code := some k22c0 }
/-- java/util/AbstractMap -/
def k22 : Class := { plain "java/util/AbstractMap" (some 0) with
  accessFlags := 1057
  interfaces := #[14]
  cf := some (fileOf pool22 8 #[.nestMembers #[181, 183, 185, 75, 187, 66, 189]] #[{ accessFlags := 4, nameIndex := 5, descriptorIndex := 6, attributes := #[] }] 1057 2 #[53] #[{ accessFlags := 128, nameIndex := 64, descriptorIndex := 65, attributes := #[] }, { accessFlags := 128, nameIndex := 73, descriptorIndex := 74, attributes := #[] }])
  fields := #[{ name := "keySet", type := (.object "java/util/Set"), accessFlags := 128, slot := 0, constantValue := 0 }, { name := "values", type := (.object "java/util/Collection"), accessFlags := 128, slot := 1, constantValue := 0 }]
  methods := #[k22m0]
  instanceTypes := #[(.object "java/util/Set"), (.object "java/util/Collection")]
  staticTypes := #[]
  resolved := Array.replicate 196 none
  statics := none }

def pool23 : Array CpInfo := pool [(1, .class_ 2), (0, u "java/lang/Cloneable"), (0, .class_ 4), (0, u "java/lang/Object")] 2

/-- java/lang/Cloneable -/
def k23 : Class := { plain "java/lang/Cloneable" (some 0) with
  accessFlags := 1537
  interfaces := #[]
  cf := some (fileOf pool23 1 #[] #[] 1537 3 #[] #[])
  fields := #[]
  methods := #[]
  instanceTypes := #[]
  staticTypes := #[]
  resolved := Array.replicate 7 none
  statics := none }

def pool24 : Array CpInfo := pool [(40, .class_ 41), (0, u "java/util/HashMap"), (1, .methodref 44 45), (0, .class_ 46), (0, .nameAndType 47 48), (0, u "java/util/AbstractMap"), (0, u "<init>"), (0, u "()V"), (32, .fieldref 40 82), (0, .nameAndType 83 84), (0, u "loadFactor"), (0, u "F"), (5, u "threshold"), (0, u "I"), (0, .float 1061158912), (8, .class_ 103), (1, u "java/util/Map"), (0, u "size"), (2, u "table"), (0, u "[Ljava/util/HashMap$Node;"), (14, u "entrySet"), (39, .class_ 165), (1, u "java/util/HashMap$Node"), (14, .class_ 181), (0, u "java/util/HashMap$TreeNode"), (22, u "modCount"), (37, u "Ljava/util/Set;"), (0, .class_ 244), (0, u "java/util/HashMap$KeySet"), (18, .class_ 264), (0, u "java/util/HashMap$Values"), (3, .class_ 269), (0, u "java/util/HashMap$EntrySet"), (76, .class_ 348), (1, u "java/util/HashMap$UnsafeHolder"), (43, .class_ 393), (0, u "java/lang/Cloneable"), (0, .class_ 395), (0, u "java/io/Serializable"), (0, u "serialVersionUID"), (0, u "J"), (3, u "DEFAULT_INITIAL_CAPACITY"), (1, u "MAXIMUM_CAPACITY"), (0, u "DEFAULT_LOAD_FACTOR"), (0, u "TREEIFY_THRESHOLD"), (1, u "UNTREEIFY_THRESHOLD"), (1, u "MIN_TREEIFY_CAPACITY"), (186, .class_ 597), (0, u "java/util/HashMap$EntrySpliterator"), (0, .class_ 599), (0, u "java/util/HashMap$ValueSpliterator"), (0, .class_ 601), (0, u "java/util/HashMap$KeySpliterator"), (0, .class_ 603), (0, u "java/util/HashMap$HashMapSpliterator"), (0, .class_ 605), (0, u "java/util/HashMap$EntryIterator"), (0, .class_ 607), (0, u "java/util/HashMap$ValueIterator"), (0, .class_ 609), (0, u "java/util/HashMap$KeyIterator"), (0, .class_ 611), (0, u "java/util/HashMap$HashIterator")] 17

def k24c0 : Code := { maxStack := 2, maxLocals := 1, code := jdk_69_method_7_code, exceptionTable := #[], attributes := #[] }
def k24m0 : Method := { name := "<init>", desc := "()V", sig := { parameters := [], returnType := none }, accessFlags := 1, code := some k24c0 }
/-- java/util/HashMap -/
def k24 : Class := { plain "java/util/HashMap" (some 22) with
  accessFlags := 33
  interfaces := #[14, 23, 5]
  cf := some (fileOf pool24 40 #[.nestMembers #[180, 596, 598, 600, 602, 604, 606, 608, 610, 346, 268, 263, 243, 163]] #[{ accessFlags := 1, nameIndex := 47, descriptorIndex := 48, attributes := #[] }] 33 44 #[101, 392, 394] #[{ accessFlags := 26, nameIndex := 396, descriptorIndex := 397, attributes := #[] }, { accessFlags := 24, nameIndex := 401, descriptorIndex := 91, attributes := #[] }, { accessFlags := 24, nameIndex := 403, descriptorIndex := 91, attributes := #[] }, { accessFlags := 24, nameIndex := 404, descriptorIndex := 84, attributes := #[] }, { accessFlags := 24, nameIndex := 405, descriptorIndex := 91, attributes := #[] }, { accessFlags := 24, nameIndex := 407, descriptorIndex := 91, attributes := #[] }, { accessFlags := 24, nameIndex := 409, descriptorIndex := 91, attributes := #[] }, { accessFlags := 128, nameIndex := 107, descriptorIndex := 108, attributes := #[] }, { accessFlags := 128, nameIndex := 123, descriptorIndex := 242, attributes := #[] }, { accessFlags := 128, nameIndex := 104, descriptorIndex := 91, attributes := #[] }, { accessFlags := 128, nameIndex := 204, descriptorIndex := 91, attributes := #[] }, { accessFlags := 0, nameIndex := 90, descriptorIndex := 91, attributes := #[] }, { accessFlags := 16, nameIndex := 83, descriptorIndex := 84, attributes := #[] }])
  fields := #[{ name := "serialVersionUID", type := .long, accessFlags := 26, slot := 0, constantValue := 0 }, { name := "DEFAULT_INITIAL_CAPACITY", type := .int, accessFlags := 24, slot := 1, constantValue := 0 }, { name := "MAXIMUM_CAPACITY", type := .int, accessFlags := 24, slot := 2, constantValue := 0 }, { name := "DEFAULT_LOAD_FACTOR", type := .float, accessFlags := 24, slot := 3, constantValue := 0 }, { name := "TREEIFY_THRESHOLD", type := .int, accessFlags := 24, slot := 4, constantValue := 0 }, { name := "UNTREEIFY_THRESHOLD", type := .int, accessFlags := 24, slot := 5, constantValue := 0 }, { name := "MIN_TREEIFY_CAPACITY", type := .int, accessFlags := 24, slot := 6, constantValue := 0 }, { name := "table", type := (.array (.object "java/util/HashMap$Node")), accessFlags := 128, slot := 2, constantValue := 0 }, { name := "entrySet", type := (.object "java/util/Set"), accessFlags := 128, slot := 3, constantValue := 0 }, { name := "size", type := .int, accessFlags := 128, slot := 4, constantValue := 0 }, { name := "modCount", type := .int, accessFlags := 128, slot := 5, constantValue := 0 }, { name := "threshold", type := .int, accessFlags := 0, slot := 6, constantValue := 0 }, { name := "loadFactor", type := .float, accessFlags := 16, slot := 7, constantValue := 0 }]
  methods := #[k24m0]
  instanceTypes := #[(.object "java/util/Set"), (.object "java/util/Collection"), (.array (.object "java/util/HashMap$Node")), (.object "java/util/Set"), .int, .int, .int, .float]
  staticTypes := #[.long, .int, .int, .float, .int, .int, .int]
  resolved := Array.replicate 629 none
  statics := none }

def pool25 : Array CpInfo := pool [(1, .methodref 2 3), (0, .class_ 4), (0, .nameAndType 5 6), (0, u "java/lang/Object"), (0, u "<init>"), (0, u "()V"), (1, .class_ 10), (1, u "java/lang/Number"), (2, .class_ 14), (0, u "java/io/Serializable"), (0, u "serialVersionUID"), (0, u "J")] 20

def k25c0 : Code := { maxStack := 1, maxLocals := 1, code := jdk_18_method_1_code, exceptionTable := #[], attributes := #[] }
def k25m0 : Method := { name := "<init>", desc := "()V", sig := { parameters := [], returnType := none }, accessFlags := 1, code := some k25c0 }
/-- java/lang/Number -/
def k25 : Class := { plain "java/lang/Number" (some 0) with
  accessFlags := 1057
  interfaces := #[5]
  cf := some (fileOf pool25 8 #[] #[{ accessFlags := 1, nameIndex := 5, descriptorIndex := 6, attributes := #[] }] 1057 2 #[13] #[{ accessFlags := 26, nameIndex := 15, descriptorIndex := 16, attributes := #[] }])
  fields := #[{ name := "serialVersionUID", type := .long, accessFlags := 26, slot := 0, constantValue := 0 }]
  methods := #[k25m0]
  instanceTypes := #[]
  staticTypes := #[.long]
  resolved := Array.replicate 37 none
  statics := none }

def pool26 : Array CpInfo := pool [(1, .methodref 2 3), (0, .class_ 4), (0, .nameAndType 5 6), (0, u "java/lang/Number"), (0, u "<init>"), (0, u "()V"), (1, .class_ 10), (1, u "java/util/concurrent/atomic/AtomicInteger"), (0, u "value"), (0, u "I"), (2, u "U"), (0, u "Ljdk/internal/misc/Unsafe;"), (2, u "VALUE"), (0, u "J"), (89, .class_ 111), (0, u "java/io/Serializable"), (0, u "serialVersionUID")] 68

def k26c0 : Code := { maxStack := 1, maxLocals := 1, code := jdk_2803_method_2_code, exceptionTable := #[], attributes := #[] }
def k26m0 : Method := { name := "<init>", desc := "()V", sig := { parameters := [], returnType := none }, accessFlags := 1, code := some k26c0 }
/-- java/util/concurrent/atomic/AtomicInteger -/
def k26 : Class := { plain "java/util/concurrent/atomic/AtomicInteger" (some 25) with
  accessFlags := 33
  interfaces := #[5]
  cf := some (fileOf pool26 8 #[] #[{ accessFlags := 1, nameIndex := 5, descriptorIndex := 6, attributes := #[] }] 33 2 #[110] #[{ accessFlags := 26, nameIndex := 112, descriptorIndex := 20, attributes := #[] }, { accessFlags := 26, nameIndex := 15, descriptorIndex := 16, attributes := #[] }, { accessFlags := 26, nameIndex := 19, descriptorIndex := 20, attributes := #[] }, { accessFlags := 66, nameIndex := 11, descriptorIndex := 12, attributes := #[] }])
  fields := #[{ name := "serialVersionUID", type := .long, accessFlags := 26, slot := 0, constantValue := 0 }, { name := "U", type := (.object "jdk/internal/misc/Unsafe"), accessFlags := 26, slot := 1, constantValue := 0 }, { name := "VALUE", type := .long, accessFlags := 26, slot := 2, constantValue := 0 }, { name := "value", type := .int, accessFlags := 66, slot := 0, constantValue := 0 }]
  methods := #[k26m0]
  instanceTypes := #[.int]
  staticTypes := #[.long, (.object "jdk/internal/misc/Unsafe"), .long]
  resolved := Array.replicate 181 none
  statics := none }

def pool27 : Array CpInfo := pool [(1, .methodref 2 3), (0, .class_ 4), (0, .nameAndType 5 6), (0, u "java/lang/Number"), (0, u "<init>"), (0, u "()V"), (1, .class_ 10), (1, u "java/util/concurrent/atomic/AtomicLong"), (0, u "value"), (0, u "J"), (2, u "U"), (0, u "Ljdk/internal/misc/Unsafe;"), (2, u "VALUE"), (91, u "VM_SUPPORTS_LONG_CAS"), (0, u "Z"), (9, .class_ 123), (0, u "java/io/Serializable"), (0, u "serialVersionUID")] 67

def k27c0 : Code := { maxStack := 1, maxLocals := 1, code := jdk_2805_method_3_code, exceptionTable := #[], attributes := #[] }
def k27m0 : Method := { name := "<init>", desc := "()V", sig := { parameters := [], returnType := none }, accessFlags := 1, code := some k27c0 }
/-- java/util/concurrent/atomic/AtomicLong -/
def k27 : Class := { plain "java/util/concurrent/atomic/AtomicLong" (some 25) with
  accessFlags := 33
  interfaces := #[5]
  cf := some (fileOf pool27 8 #[] #[{ accessFlags := 1, nameIndex := 5, descriptorIndex := 6, attributes := #[] }] 33 2 #[122] #[{ accessFlags := 26, nameIndex := 124, descriptorIndex := 12, attributes := #[] }, { accessFlags := 24, nameIndex := 111, descriptorIndex := 112, attributes := #[] }, { accessFlags := 26, nameIndex := 15, descriptorIndex := 16, attributes := #[] }, { accessFlags := 26, nameIndex := 19, descriptorIndex := 12, attributes := #[] }, { accessFlags := 66, nameIndex := 11, descriptorIndex := 12, attributes := #[] }])
  fields := #[{ name := "serialVersionUID", type := .long, accessFlags := 26, slot := 0, constantValue := 0 }, { name := "VM_SUPPORTS_LONG_CAS", type := .boolean, accessFlags := 24, slot := 1, constantValue := 0 }, { name := "U", type := (.object "jdk/internal/misc/Unsafe"), accessFlags := 26, slot := 2, constantValue := 0 }, { name := "VALUE", type := .long, accessFlags := 26, slot := 3, constantValue := 0 }, { name := "value", type := .long, accessFlags := 66, slot := 0, constantValue := 0 }]
  methods := #[k27m0]
  instanceTypes := #[.long]
  staticTypes := #[.long, .boolean, (.object "jdk/internal/misc/Unsafe"), .long]
  resolved := Array.replicate 192 none
  statics := none }

def pool28 : Array CpInfo := pool [(1, .class_ 2), (0, u "java/util/concurrent/TimeUnit"), (2, u "NANOSECONDS"), (0, u "Ljava/util/concurrent/TimeUnit;"), (2, u "MICROSECONDS"), (2, u "MILLISECONDS"), (2, u "SECONDS"), (2, u "MINUTES"), (2, u "HOURS"), (2, u "DAYS"), (2, u "$VALUES"), (0, u "[Ljava/util/concurrent/TimeUnit;"), (6, .class_ 37), (1, u "java/lang/Enum"), (6, .fieldref 1 45), (0, .nameAndType 46 47), (0, u "scale"), (0, u "J"), (2, .long 9223372036854775807), (1, .fieldref 1 53), (0, .nameAndType 54 47), (0, u "maxNanos"), (4, u "microRatio"), (2, u "maxMicros"), (0, .long 1000000), (1, .fieldref 1 66), (0, .nameAndType 67 68), (0, u "milliRatio"), (0, u "I"), (0, .fieldref 1 70), (0, .nameAndType 71 47), (0, u "maxMillis"), (4, u "secRatio"), (2, u "maxSecs"), (8, u "toNanos"), (0, u "(J)J"), (5, u "toMillis"), (67, .class_ 165), (1, u "java/util/concurrent/TimeUnit$1"), (46, u "NANO_SCALE"), (3, u "MICRO_SCALE"), (0, u "MILLI_SCALE"), (0, u "SECOND_SCALE"), (0, u "MINUTE_SCALE"), (0, u "HOUR_SCALE"), (0, u "DAY_SCALE")] 61

def k28c0 : Code := { maxStack := 6, maxLocals := 7, code := jdk_2799_method_7_code, exceptionTable := #[], attributes := #[] }
def k28m0 : Method := { name := "toNanos", desc := "(J)J", sig := { parameters := [.long], returnType := some .long }, accessFlags := 1, code := some k28c0 }
def k28c1 : Code := { maxStack := 6, maxLocals := 7, code := jdk_2799_method_9_code, exceptionTable := #[], attributes := #[] }
def k28m1 : Method := { name := "toMillis", desc := "(J)J", sig := { parameters := [.long], returnType := some .long }, accessFlags := 1, code := some k28c1 }
/-- java/util/concurrent/TimeUnit -/
def k28 : Class := { plain "java/util/concurrent/TimeUnit" (some 11) with
  accessFlags := 16433
  interfaces := #[]
  cf := some (fileOf pool28 1 #[.nestMembers #[163]] #[{ accessFlags := 1, nameIndex := 88, descriptorIndex := 89, attributes := #[] }, { accessFlags := 1, nameIndex := 95, descriptorIndex := 89, attributes := #[] }] 16433 35 #[] #[{ accessFlags := 16409, nameIndex := 5, descriptorIndex := 6, attributes := #[] }, { accessFlags := 16409, nameIndex := 9, descriptorIndex := 6, attributes := #[] }, { accessFlags := 16409, nameIndex := 12, descriptorIndex := 6, attributes := #[] }, { accessFlags := 16409, nameIndex := 15, descriptorIndex := 6, attributes := #[] }, { accessFlags := 16409, nameIndex := 18, descriptorIndex := 6, attributes := #[] }, { accessFlags := 16409, nameIndex := 21, descriptorIndex := 6, attributes := #[] }, { accessFlags := 16409, nameIndex := 24, descriptorIndex := 6, attributes := #[] }, { accessFlags := 26, nameIndex := 212, descriptorIndex := 47, attributes := #[] }, { accessFlags := 26, nameIndex := 216, descriptorIndex := 47, attributes := #[] }, { accessFlags := 26, nameIndex := 217, descriptorIndex := 47, attributes := #[] }, { accessFlags := 26, nameIndex := 218, descriptorIndex := 47, attributes := #[] }, { accessFlags := 26, nameIndex := 219, descriptorIndex := 47, attributes := #[] }, { accessFlags := 26, nameIndex := 220, descriptorIndex := 47, attributes := #[] }, { accessFlags := 26, nameIndex := 221, descriptorIndex := 47, attributes := #[] }, { accessFlags := 18, nameIndex := 46, descriptorIndex := 47, attributes := #[] }, { accessFlags := 18, nameIndex := 54, descriptorIndex := 47, attributes := #[] }, { accessFlags := 18, nameIndex := 62, descriptorIndex := 47, attributes := #[] }, { accessFlags := 18, nameIndex := 71, descriptorIndex := 47, attributes := #[] }, { accessFlags := 18, nameIndex := 79, descriptorIndex := 47, attributes := #[] }, { accessFlags := 18, nameIndex := 59, descriptorIndex := 47, attributes := #[] }, { accessFlags := 18, nameIndex := 67, descriptorIndex := 68, attributes := #[] }, { accessFlags := 18, nameIndex := 76, descriptorIndex := 68, attributes := #[] }, { accessFlags := 4122, nameIndex := 27, descriptorIndex := 28, attributes := #[] }])
  fields := #[{ name := "NANOSECONDS", type := (.object "java/util/concurrent/TimeUnit"), accessFlags := 16409, slot := 0, constantValue := 0 }, { name := "MICROSECONDS", type := (.object "java/util/concurrent/TimeUnit"), accessFlags := 16409, slot := 1, constantValue := 0 }, { name := "MILLISECONDS", type := (.object "java/util/concurrent/TimeUnit"), accessFlags := 16409, slot := 2, constantValue := 0 }, { name := "SECONDS", type := (.object "java/util/concurrent/TimeUnit"), accessFlags := 16409, slot := 3, constantValue := 0 }, { name := "MINUTES", type := (.object "java/util/concurrent/TimeUnit"), accessFlags := 16409, slot := 4, constantValue := 0 }, { name := "HOURS", type := (.object "java/util/concurrent/TimeUnit"), accessFlags := 16409, slot := 5, constantValue := 0 }, { name := "DAYS", type := (.object "java/util/concurrent/TimeUnit"), accessFlags := 16409, slot := 6, constantValue := 0 }, { name := "NANO_SCALE", type := .long, accessFlags := 26, slot := 7, constantValue := 0 }, { name := "MICRO_SCALE", type := .long, accessFlags := 26, slot := 8, constantValue := 0 }, { name := "MILLI_SCALE", type := .long, accessFlags := 26, slot := 9, constantValue := 0 }, { name := "SECOND_SCALE", type := .long, accessFlags := 26, slot := 10, constantValue := 0 }, { name := "MINUTE_SCALE", type := .long, accessFlags := 26, slot := 11, constantValue := 0 }, { name := "HOUR_SCALE", type := .long, accessFlags := 26, slot := 12, constantValue := 0 }, { name := "DAY_SCALE", type := .long, accessFlags := 26, slot := 13, constantValue := 0 }, { name := "scale", type := .long, accessFlags := 18, slot := 3, constantValue := 0 }, { name := "maxNanos", type := .long, accessFlags := 18, slot := 4, constantValue := 0 }, { name := "maxMicros", type := .long, accessFlags := 18, slot := 5, constantValue := 0 }, { name := "maxMillis", type := .long, accessFlags := 18, slot := 6, constantValue := 0 }, { name := "maxSecs", type := .long, accessFlags := 18, slot := 7, constantValue := 0 }, { name := "microRatio", type := .long, accessFlags := 18, slot := 8, constantValue := 0 }, { name := "milliRatio", type := .int, accessFlags := 18, slot := 9, constantValue := 0 }, { name := "secRatio", type := .int, accessFlags := 18, slot := 10, constantValue := 0 }, { name := "$VALUES", type := (.array (.object "java/util/concurrent/TimeUnit")), accessFlags := 4122, slot := 14, constantValue := 0 }]
  methods := #[k28m0, k28m1]
  instanceTypes := #[(.object "java/lang/String"), .int, .int, .long, .long, .long, .long, .long, .long, .int, .int]
  staticTypes := #[(.object "java/util/concurrent/TimeUnit"), (.object "java/util/concurrent/TimeUnit"), (.object "java/util/concurrent/TimeUnit"), (.object "java/util/concurrent/TimeUnit"), (.object "java/util/concurrent/TimeUnit"), (.object "java/util/concurrent/TimeUnit"), (.object "java/util/concurrent/TimeUnit"), .long, .long, .long, .long, .long, .long, .long, (.array (.object "java/util/concurrent/TimeUnit"))]
  resolved := Array.replicate 283 none
  statics := some 4 }

def pool29 : Array CpInfo := pool [(1, .methodref 2 3), (0, .class_ 4), (0, .nameAndType 5 6), (0, u "java/lang/Object"), (0, u "<init>"), (0, u "()V"), (0, .fieldref 8 9), (0, .class_ 10), (0, .nameAndType 11 12), (0, u "com/example/sluicegate/sluicegate/rule/Slot"), (0, u "fromNanos"), (0, u "J"), (0, .fieldref 8 14), (0, .nameAndType 15 12), (0, u "waitNanos"), (0, .methodref 17 18), (0, .class_ 19), (0, .nameAndType 20 21), (0, u "java/lang/Math"), (0, u "max"), (0, u "(JJ)J"), (0, u "(J)V"), (2, u "()J"), (0, u "slotNanos"), (0, u "waitAtLeast")] 2

def k29c0 : Code := { maxStack := 3, maxLocals := 3, code := prog_76_method_1_code, exceptionTable := #[], attributes := #[] }
def k29m0 : Method := { name := "<init>", desc := "(J)V", sig := { parameters := [.long], returnType := none }, accessFlags := 0, code := some k29c0 }
def k29c1 : Code := { maxStack := 2, maxLocals := 1, code := prog_76_method_2_code, exceptionTable := #[], attributes := #[] }
def k29m1 : Method := { name := "fromNanos", desc := "()J", sig := { parameters := [], returnType := some .long }, accessFlags := 0, code := some k29c1 }
def k29c2 : Code := { maxStack := 2, maxLocals := 1, code := prog_76_method_3_code, exceptionTable := #[], attributes := #[] }
def k29m2 : Method := { name := "waitNanos", desc := "()J", sig := { parameters := [], returnType := some .long }, accessFlags := 0, code := some k29c2 }
def k29c3 : Code := { maxStack := 4, maxLocals := 1, code := prog_76_method_4_code, exceptionTable := #[], attributes := #[] }
def k29m3 : Method := { name := "slotNanos", desc := "()J", sig := { parameters := [], returnType := some .long }, accessFlags := 0, code := some k29c3 }
def k29c4 : Code := { maxStack := 5, maxLocals := 3, code := prog_76_method_5_code, exceptionTable := #[], attributes := #[] }
def k29m4 : Method := { name := "waitAtLeast", desc := "(J)V", sig := { parameters := [.long], returnType := none }, accessFlags := 0, code := some k29c4 }
/-- com/example/sluicegate/sluicegate/rule/Slot -/
def k29 : Class := { plain "com/example/sluicegate/sluicegate/rule/Slot" (some 0) with
  accessFlags := 32
  interfaces := #[]
  cf := some (fileOf pool29 8 #[] #[{ accessFlags := 0, nameIndex := 5, descriptorIndex := 22, attributes := #[] }, { accessFlags := 0, nameIndex := 11, descriptorIndex := 25, attributes := #[] }, { accessFlags := 0, nameIndex := 15, descriptorIndex := 25, attributes := #[] }, { accessFlags := 0, nameIndex := 26, descriptorIndex := 25, attributes := #[] }, { accessFlags := 0, nameIndex := 27, descriptorIndex := 22, attributes := #[] }] 32 2 #[] #[{ accessFlags := 18, nameIndex := 11, descriptorIndex := 12, attributes := #[] }, { accessFlags := 2, nameIndex := 15, descriptorIndex := 12, attributes := #[] }])
  fields := #[{ name := "fromNanos", type := .long, accessFlags := 18, slot := 0, constantValue := 0 }, { name := "waitNanos", type := .long, accessFlags := 2, slot := 1, constantValue := 0 }]
  methods := #[k29m0, k29m1, k29m2, k29m3, k29m4]
  instanceTypes := #[.long, .long]
  staticTypes := #[]
  resolved := Array.replicate 30 none
  statics := none }

def pool30 : Array CpInfo := pool [(1, .class_ 2), (0, u "com/example/sluicegate/sluicegate/rule/HotValues"), (0, .methodref 4 5), (0, .class_ 6), (0, .nameAndType 7 8), (0, u "java/lang/Object"), (0, u "<init>"), (0, u "()V"), (0, .fieldref 10 11), (0, .class_ 12), (0, .nameAndType 13 14), (0, u "com/example/sluicegate/sluicegate/rule/HotValues$Kept"), (0, u "sparedPlace"), (0, u "S"), (0, .fieldref 10 16), (0, .nameAndType 17 18), (0, u "value"), (0, u "Ljava/lang/Object;"), (0, .fieldref 10 20), (0, .nameAndType 21 22), (0, u "shard"), (0, u "Lcom/example/sluicegate/sluicegate/rule/ValueShards$Shard;"), (0, .fieldref 10 24), (0, .nameAndType 25 26), (0, u "filledMillis"), (0, u "J"), (0, .fieldref 10 28), (0, .nameAndType 29 26), (0, u "latestCall"), (0, .fieldref 10 31), (0, .nameAndType 32 26), (0, u "seen"), (2, u "asked"), (8, u "setAsideFor"), (0, u "B"), (6, u "freshKey"), (0, u "paceKey"), (0, u "calledKey"), (0, u "freshPlace"), (0, u "pacePlace"), (0, u "calledPlace"), (0, u "settingAsideStopped"), (0, u "Z"), (0, u "forgotten"), (0, u "(Ljava/lang/Object;Lcom/example/sluicegate/sluicegate/rule/ValueShards$Shard;JJJ)V")] 20

def k30c0 : Code := { maxStack := 3, maxLocals := 9, code := prog_47_method_1_code, exceptionTable := #[], attributes := #[] }
def k30m0 : Method := { name := "<init>", desc := "(Ljava/lang/Object;Lcom/example/sluicegate/sluicegate/rule/ValueShards$Shard;JJJ)V", sig := { parameters := [(.object "java/lang/Object"), (.object "com/example/sluicegate/sluicegate/rule/ValueShards$Shard"), .long, .long, .long], returnType := none }, accessFlags := 0, code := some k30c0 }
/-- com/example/sluicegate/sluicegate/rule/HotValues$Kept -/
def k30 : Class := { plain "com/example/sluicegate/sluicegate/rule/HotValues$Kept" (some 0) with
  accessFlags := 1056
  interfaces := #[]
  cf := some (fileOf pool30 10 #[.nestHost 1] #[{ accessFlags := 0, nameIndex := 7, descriptorIndex := 61, attributes := #[] }] 1056 4 #[] #[{ accessFlags := 18, nameIndex := 17, descriptorIndex := 18, attributes := #[] }, { accessFlags := 18, nameIndex := 21, descriptorIndex := 22, attributes := #[] }, { accessFlags := 2, nameIndex := 25, descriptorIndex := 26, attributes := #[] }, { accessFlags := 2, nameIndex := 35, descriptorIndex := 26, attributes := #[] }, { accessFlags := 2, nameIndex := 29, descriptorIndex := 26, attributes := #[] }, { accessFlags := 18, nameIndex := 32, descriptorIndex := 26, attributes := #[] }, { accessFlags := 2, nameIndex := 52, descriptorIndex := 26, attributes := #[] }, { accessFlags := 2, nameIndex := 53, descriptorIndex := 26, attributes := #[] }, { accessFlags := 2, nameIndex := 54, descriptorIndex := 26, attributes := #[] }, { accessFlags := 2, nameIndex := 55, descriptorIndex := 14, attributes := #[] }, { accessFlags := 2, nameIndex := 56, descriptorIndex := 14, attributes := #[] }, { accessFlags := 2, nameIndex := 57, descriptorIndex := 14, attributes := #[] }, { accessFlags := 2, nameIndex := 13, descriptorIndex := 14, attributes := #[] }, { accessFlags := 2, nameIndex := 44, descriptorIndex := 45, attributes := #[] }, { accessFlags := 2, nameIndex := 58, descriptorIndex := 59, attributes := #[] }, { accessFlags := 66, nameIndex := 60, descriptorIndex := 59, attributes := #[] }])
  fields := #[{ name := "value", type := (.object "java/lang/Object"), accessFlags := 18, slot := 0, constantValue := 0 }, { name := "shard", type := (.object "com/example/sluicegate/sluicegate/rule/ValueShards$Shard"), accessFlags := 18, slot := 1, constantValue := 0 }, { name := "filledMillis", type := .long, accessFlags := 2, slot := 2, constantValue := 0 }, { name := "asked", type := .long, accessFlags := 2, slot := 3, constantValue := 0 }, { name := "latestCall", type := .long, accessFlags := 2, slot := 4, constantValue := 0 }, { name := "seen", type := .long, accessFlags := 18, slot := 5, constantValue := 0 }, { name := "freshKey", type := .long, accessFlags := 2, slot := 6, constantValue := 0 }, { name := "paceKey", type := .long, accessFlags := 2, slot := 7, constantValue := 0 }, { name := "calledKey", type := .long, accessFlags := 2, slot := 8, constantValue := 0 }, { name := "freshPlace", type := .short, accessFlags := 2, slot := 9, constantValue := 0 }, { name := "pacePlace", type := .short, accessFlags := 2, slot := 10, constantValue := 0 }, { name := "calledPlace", type := .short, accessFlags := 2, slot := 11, constantValue := 0 }, { name := "sparedPlace", type := .short, accessFlags := 2, slot := 12, constantValue := 0 }, { name := "setAsideFor", type := .byte, accessFlags := 2, slot := 13, constantValue := 0 }, { name := "settingAsideStopped", type := .boolean, accessFlags := 2, slot := 14, constantValue := 0 }, { name := "forgotten", type := .boolean, accessFlags := 66, slot := 15, constantValue := 0 }]
  methods := #[k30m0]
  instanceTypes := #[(.object "java/lang/Object"), (.object "com/example/sluicegate/sluicegate/rule/ValueShards$Shard"), .long, .long, .long, .long, .long, .long, .long, .short, .short, .short, .short, .byte, .boolean, .boolean]
  staticTypes := #[]
  resolved := Array.replicate 82 none
  statics := none }

def pool31 : Array CpInfo := pool [(1, .methodref 2 3), (0, .class_ 4), (0, .nameAndType 5 6), (0, u "com/example/sluicegate/sluicegate/rule/HotValues$Kept"), (0, u "<init>"), (0, u "(Ljava/lang/Object;Lcom/example/sluicegate/sluicegate/rule/ValueShards$Shard;JJJ)V"), (0, .fieldref 8 9), (0, .class_ 10), (0, .nameAndType 11 12), (0, u "com/example/sluicegate/sluicegate/rule/PacedValues$Latest"), (0, u "slotNanos"), (0, u "J"), (0, u "(Ljava/lang/Object;Lcom/example/sluicegate/sluicegate/rule/ValueShards$Shard;JJJJ)V"), (7, .class_ 22), (0, u "com/example/sluicegate/sluicegate/rule/PacedValues")] 10

def k31c0 : Code := { maxStack := 9, maxLocals := 11, code := prog_58_method_1_code, exceptionTable := #[], attributes := #[] }
def k31m0 : Method := { name := "<init>", desc := "(Ljava/lang/Object;Lcom/example/sluicegate/sluicegate/rule/ValueShards$Shard;JJJJ)V", sig := { parameters := [(.object "java/lang/Object"), (.object "com/example/sluicegate/sluicegate/rule/ValueShards$Shard"), .long, .long, .long, .long], returnType := none }, accessFlags := 0, code := some k31c0 }
/-- com/example/sluicegate/sluicegate/rule/PacedValues$Latest -/
def k31 : Class := { plain "com/example/sluicegate/sluicegate/rule/PacedValues$Latest" (some 30) with
  accessFlags := 32
  interfaces := #[]
  cf := some (fileOf pool31 8 #[.nestHost 21] #[{ accessFlags := 0, nameIndex := 5, descriptorIndex := 13, attributes := #[] }] 32 2 #[] #[{ accessFlags := 2, nameIndex := 11, descriptorIndex := 12, attributes := #[] }])
  fields := #[{ name := "slotNanos", type := .long, accessFlags := 2, slot := 16, constantValue := 0 }]
  methods := #[k31m0]
  instanceTypes := #[(.object "java/lang/Object"), (.object "com/example/sluicegate/sluicegate/rule/ValueShards$Shard"), .long, .long, .long, .long, .long, .long, .long, .short, .short, .short, .short, .byte, .boolean, .boolean, .long]
  staticTypes := #[]
  resolved := Array.replicate 33 none
  statics := none }

def pool32 : Array CpInfo := pool [(1, .class_ 2), (0, u "java/math/RoundingMode"), (2, u "UP"), (0, u "Ljava/math/RoundingMode;"), (2, u "DOWN"), (2, u "CEILING"), (2, u "FLOOR"), (2, u "HALF_UP"), (2, u "HALF_DOWN"), (2, u "HALF_EVEN"), (2, u "UNNECESSARY"), (2, u "$VALUES"), (0, u "[Ljava/math/RoundingMode;"), (6, .class_ 40), (1, u "java/lang/Enum"), (8, u "oldMode"), (0, u "I")] 43

/-- java/math/RoundingMode -/
def k32 : Class := { plain "java/math/RoundingMode" (some 11) with
  accessFlags := 16433
  interfaces := #[]
  cf := some (fileOf pool32 1 #[] #[] 16433 38 #[] #[{ accessFlags := 16409, nameIndex := 5, descriptorIndex := 6, attributes := #[] }, { accessFlags := 16409, nameIndex := 9, descriptorIndex := 6, attributes := #[] }, { accessFlags := 16409, nameIndex := 12, descriptorIndex := 6, attributes := #[] }, { accessFlags := 16409, nameIndex := 15, descriptorIndex := 6, attributes := #[] }, { accessFlags := 16409, nameIndex := 18, descriptorIndex := 6, attributes := #[] }, { accessFlags := 16409, nameIndex := 21, descriptorIndex := 6, attributes := #[] }, { accessFlags := 16409, nameIndex := 24, descriptorIndex := 6, attributes := #[] }, { accessFlags := 16409, nameIndex := 27, descriptorIndex := 6, attributes := #[] }, { accessFlags := 16, nameIndex := 49, descriptorIndex := 50, attributes := #[] }, { accessFlags := 4122, nameIndex := 30, descriptorIndex := 31, attributes := #[] }])
  fields := #[{ name := "UP", type := (.object "java/math/RoundingMode"), accessFlags := 16409, slot := 0, constantValue := 0 }, { name := "DOWN", type := (.object "java/math/RoundingMode"), accessFlags := 16409, slot := 1, constantValue := 0 }, { name := "CEILING", type := (.object "java/math/RoundingMode"), accessFlags := 16409, slot := 2, constantValue := 0 }, { name := "FLOOR", type := (.object "java/math/RoundingMode"), accessFlags := 16409, slot := 3, constantValue := 0 }, { name := "HALF_UP", type := (.object "java/math/RoundingMode"), accessFlags := 16409, slot := 4, constantValue := 0 }, { name := "HALF_DOWN", type := (.object "java/math/RoundingMode"), accessFlags := 16409, slot := 5, constantValue := 0 }, { name := "HALF_EVEN", type := (.object "java/math/RoundingMode"), accessFlags := 16409, slot := 6, constantValue := 0 }, { name := "UNNECESSARY", type := (.object "java/math/RoundingMode"), accessFlags := 16409, slot := 7, constantValue := 0 }, { name := "oldMode", type := .int, accessFlags := 16, slot := 3, constantValue := 0 }, { name := "$VALUES", type := (.array (.object "java/math/RoundingMode")), accessFlags := 4122, slot := 8, constantValue := 0 }]
  methods := #[]
  instanceTypes := #[(.object "java/lang/String"), .int, .int, .int]
  staticTypes := #[(.object "java/math/RoundingMode"), (.object "java/math/RoundingMode"), (.object "java/math/RoundingMode"), (.object "java/math/RoundingMode"), (.object "java/math/RoundingMode"), (.object "java/math/RoundingMode"), (.object "java/math/RoundingMode"), (.object "java/math/RoundingMode"), (.array (.object "java/math/RoundingMode"))]
  resolved := Array.replicate 94 none
  statics := some 5 }

def pool33 : Array CpInfo := pool [(2, .class_ 4), (1, u "java/util/AbstractMap"), (0, u "<init>"), (0, u "()V"), (1, .class_ 10), (1, u "java/util/ImmutableCollections"), (3, .class_ 16), (1, u "java/util/ImmutableCollections$AbstractImmutableMap"), (2, .class_ 20), (0, u "java/io/Serializable")] 66

def k33m0 : Method := { name := "<init>", desc := "()V", sig := { parameters := [], returnType := none }, accessFlags := 0, code := none }
/-- java/util/ImmutableCollections$AbstractImmutableMap -/
def k33 : Class := { plain "java/util/ImmutableCollections$AbstractImmutableMap" (some 22) with
  accessFlags := 1056
  interfaces := #[5]
  cf := some (fileOf pool33 14 #[.nestHost 8] #[{ accessFlags := 0, nameIndex := 5, descriptorIndex := 6, attributes := #[] }] 1056 2 #[19] #[])
  fields := #[]
  methods := #[k33m0]
  instanceTypes := #[(.object "java/util/Set"), (.object "java/util/Collection")]
  staticTypes := #[]
  resolved := Array.replicate 87 none
  statics := none }

def pool34 : Array CpInfo := pool [(1, .class_ 2), (0, u "java/util/ImmutableCollections"), (1, .class_ 6), (1, u "java/util/ImmutableCollections$AbstractImmutableMap"), (10, .class_ 19), (1, u "java/util/ImmutableCollections$MapN"), (0, u "size"), (0, u "I"), (4, u "table"), (0, u "[Ljava/lang/Object;")] 121

/-- java/util/ImmutableCollections$MapN -/
def k34 : Class := { plain "java/util/ImmutableCollections$MapN" (some 33) with
  accessFlags := 48
  interfaces := #[]
  cf := some (fileOf pool34 17 #[.nestHost 1] #[] 48 4 #[] #[{ accessFlags := 16, nameIndex := 26, descriptorIndex := 27, attributes := #[] }, { accessFlags := 16, nameIndex := 20, descriptorIndex := 21, attributes := #[] }])
  fields := #[{ name := "table", type := (.array (.object "java/lang/Object")), accessFlags := 16, slot := 2, constantValue := 0 }, { name := "size", type := .int, accessFlags := 16, slot := 3, constantValue := 0 }]
  methods := #[]
  instanceTypes := #[(.object "java/util/Set"), (.object "java/util/Collection"), (.array (.object "java/lang/Object")), .int]
  staticTypes := #[]
  resolved := Array.replicate 149 none
  statics := none }

/-- the primitive byte -/
def k35 : Class := { plain "byte" none with kind := .primitive 'B', accessFlags := 0x411 }
/-- [B -/
def k36 : Class := { plain "[B" (some 0) with kind := .array 35 .byte, interfaces := #[23, 5], accessFlags := 1041 }

/-- the primitive int -/
def k37 : Class := { plain "int" none with kind := .primitive 'I', accessFlags := 0x411 }
/-- [I -/
def k38 : Class := { plain "[I" (some 0) with kind := .array 37 .int, interfaces := #[23, 5], accessFlags := 1041 }

/-- the primitive long -/
def k39 : Class := { plain "long" none with kind := .primitive 'J', accessFlags := 0x411 }
/-- [J -/
def k40 : Class := { plain "[J" (some 0) with kind := .array 39 .long, interfaces := #[23, 5], accessFlags := 1041 }

/-- [Lcom/example/sluicegate/sluicegate/rule/ValueShards$Shard; -/
def k41 : Class := { plain "[Lcom/example/sluicegate/sluicegate/rule/ValueShards$Shard;" (some 0) with kind := .array 21 (.object "com/example/sluicegate/sluicegate/rule/ValueShards$Shard"), interfaces := #[23, 5], accessFlags := 1041 }

/-- [Ljava/lang/Object; -/
def k42 : Class := { plain "[Ljava/lang/Object;" (some 0) with kind := .array 0 (.object "java/lang/Object"), interfaces := #[23, 5], accessFlags := 1041 }

/-- [Ljava/util/Map; -/
def k43 : Class := { plain "[Ljava/util/Map;" (some 0) with kind := .array 14 (.object "java/util/Map"), interfaces := #[23, 5], accessFlags := 1041 }

def heap : Heap := #[{ cls := 12, slots := #[.ref 8, .ref 9, .null], vm := .statics 12 },
  { cls := 13, slots := #[.ref 10, .ref 11, .null], vm := .statics 13 },
  { cls := 15, slots := #[.long 0, .int 0, .null, .null, .null, .null, .null, .ref 12, .int 0, .int 0], vm := .statics 15 },
  { cls := 19, slots := #[.int 16, .int 0, .int 0, .long 0, .int 0], vm := .statics 19 },
  { cls := 28, slots := #[.null, .null, .ref 14, .ref 13, .null, .null, .null, .long 0, .long 0, .long 0, .long 0, .long 0, .long 0, .long 0, .null], vm := .statics 28 },
  { cls := 32, slots := #[.null, .null, .ref 15, .null, .null, .null, .null, .null, .null], vm := .statics 32 },
  { cls := 42, slots := #[], vm := .none },
  { cls := 10, slots := #[.null, .int 0, .int 0, .int 0], vm := .none },
  { cls := 12, slots := #[.null, .int 0, .int 0], vm := .none },
  { cls := 12, slots := #[.null, .int 1, .int 0], vm := .none },
  { cls := 13, slots := #[.null, .int 0, .int 0], vm := .none },
  { cls := 13, slots := #[.null, .int 1, .int 0], vm := .none },
  { cls := 34, slots := #[.null, .null, .ref 6, .int 0], vm := .none },
  { cls := 28, slots := #[.ref 7, .int 3, .int 0, .long 1000000000, .long 9223372036, .long 9223372036854, .long 9223372036854775, .long 9223372036854775807, .long 1000000, .int 1000, .int 1], vm := .none },
  { cls := 28, slots := #[.ref 7, .int 2, .int 0, .long 1000000, .long 9223372036854, .long 9223372036854775, .long 9223372036854775807, .long 9223372036854775, .long 1000, .int 1, .int 1000], vm := .none },
  { cls := 32, slots := #[.ref 7, .int 2, .int 0, .int 2], vm := .none }]
def classes : Array Class := #[k0, k1, k2, k3, k4, k5, k6, k7, k8, k9, k10, k11, k12, k13, k14, k15, k16, k17, k18, k19, k20, k21, k22, k23, k24, k25, k26, k27, k28, k29, k30, k31, k32, k33, k34, k35, k36, k37, k38, k39, k40, k41, k42, k43]
def interned : List (Array UInt16 × Addr) := []
def slotsUsed : Nat := 91
def theMethod : MethodId := ⟨1, 1⟩
def args0 : Array Value := #[.long 5, .long 7, .int 3, .int 9, .long 11, .int 3]
def aboutOver (below : List Frame) : State where
  vm := { classes := classes, interned := interned.toArray }
  heap := heap
  slotsUsed := slotsUsed
  threads := #[{ frames := .invoking theMethod args0 :: below }]
def below0 : List Frame := [.native { method := ⟨0, 0⟩, args := #[] }]
def about1 : State := aboutOver below0
def p0 : Program := .bare "" "" ""
def e0 : Env := launch0.env 0 0 0
theorem w_frames : about1.frames = Frame.invoking theMethod args0 :: below0 := rfl
set_option maxRecDepth 65536 in
theorem w_args : argsFit about1.vm theMethod args0 = true := by decide +kernel
set_option maxRecDepth 65536 in
theorem w_heap : heapFits about1 = true := by decide +kernel
set_option maxRecDepth 65536 in
theorem w_runnable : about1.curStatus? = some .runnable := by decide +kernel
set_option maxRecDepth 65536 in
theorem w_alone : about1.alone = true := by decide +kernel
set_option maxRecDepth 65536 in
theorem w_named : about1.methodNamed? x = some theMethod := by decide +kernel
set_option maxRecDepth 65536 in
theorem w_hears : about1.hears theMethod below0 = true := by decide +kernel
set_option maxRecDepth 65536 in
theorem w_ripe : about1.ripe theMethod args0 below0 = true := by decide +kernel
theorem w_running : about1.status = .running := rfl
set_option maxRecDepth 65536 in
theorem w_room : about1.hasRoom e0.platform room_1 = true :=
  launch0.hasRoom_least _ room_1 (by decide +kernel) (by decide +kernel) (by decide +kernel) (by decide +kernel) (by decide +kernel) (by decide +kernel)
theorem allAtoms_all (ts : List Jvm.Cond) (a : Array Jvm.Value) (st : Jvm.State) : (allAtoms ts).before a st = ts.all (fun c => c.before a st) := by
  induction ts with
  | nil => rfl
  | cons c t ih =>
    show (Jvm.Cond.and c (allAtoms t)).before a st = _
    rw [Jvm.Cond.before_and, ih, List.all_cons]
def words1 : List Jvm.Cond := Jvm.Cond.code x code maxLocals ret :: tables_1
/-- a 'code' word, met by the world's own term for the bytes: nothing is compared byte by byte -/
theorem code_word {y : MethodName} {bytes : ByteArray} {mx : Nat} {rt : Option FieldType} {a : Array Value} {s : State} {m : MethodId} {meth : Method} {c : Code} (h1 : s.methodNamed? y = some m) (h2 : s.vm.method? m = some meth) (h3 : meth.code = some c) (h4 : c.code = bytes)
    (h5 : (c.maxLocals == mx && c.exceptionTable.isEmpty && decide (c.maxStack ≤ mostOperands) && decide (meth.sig.returnType = rt) && !meth.locks && decide (parseMethodDescriptor y.desc = some meth.sig)) = true) : (Jvm.Cond.code y bytes mx rt).before a s = true := by
  simp only [Bool.and_eq_true, beq_iff_eq, Bool.not_eq_true', decide_eq_true_eq] at h5
  obtain ⟨⟨⟨⟨⟨g1, g2⟩, g3⟩, g4⟩, g5⟩, g6⟩ := h5
  simp [Cond.before, Cond.holds, Cond.value, h1, h2, h3, h4, g1, g2, g3, g4, g5, g6]
def isCode : Jvm.Cond → Bool
  | .code _ _ _ _ => true
  | _ => false
theorem all_split {L : List Jvm.Cond} {P : Jvm.Cond → Bool} (h1 : L.all (fun c => isCode c || P c) = true) (h2 : ∀ c ∈ L.filter isCode, P c = true) : L.all P = true := by
  refine List.all_eq_true.mpr fun c hc => ?_
  have h := List.all_eq_true.mp h1 c hc
  rcases Bool.eq_false_or_eq_true (isCode c) with hi | hi
  · exact h2 c (List.mem_filter.mpr ⟨hc, hi⟩)
  · simpa [hi] using h
set_option maxRecDepth 65536 in
theorem w_c0 : (Jvm.Cond.code x code maxLocals ret).before args0 about1 = true := code_word (m := ⟨1, 1⟩) (meth := k1m1) (c := k1c1) (by decide +kernel) rfl rfl rfl (by decide +kernel)
set_option maxRecDepth 65536 in
theorem w_c1 : (Jvm.Cond.code ({ cls := "java/lang/Math", name := "max", desc := "(II)I" } : Jvm.MethodName) jdk_29_method_65_code (2 : Nat) (Option.some Jvm.ClassFile.FieldType.int)).before args0 about1 = true := code_word (m := ⟨2, 1⟩) (meth := k2m1) (c := k2c1) (by decide +kernel) rfl rfl rfl (by decide +kernel)
set_option maxRecDepth 65536 in
theorem w_c2 : (Jvm.Cond.code ({ cls := "com/example/sluicegate/sluicegate/rule/HotParameterRule", name := "<init>", desc := "(Ljava/lang/String;II)V" } : Jvm.MethodName) prog_38_method_1_code (4 : Nat) (Option.none : Option Jvm.ClassFile.FieldType)).before args0 about1 = true := code_word (m := ⟨4, 0⟩) (meth := k4m0) (c := k4c0) (by decide +kernel) rfl rfl rfl (by decide +kernel)
set_option maxRecDepth 65536 in
theorem w_c3 : (Jvm.Cond.code ({ cls := "java/util/Map", name := "of", desc := "()Ljava/util/Map;" } : Jvm.MethodName) jdk_72_method_26_code (0 : Nat) (Option.some (Jvm.ClassFile.FieldType.object "java/util/Map"))).before args0 about1 = true := code_word (m := ⟨14, 0⟩) (meth := k14m0) (c := k14c0) (by decide +kernel) rfl rfl rfl (by decide +kernel)
set_option maxRecDepth 65536 in
theorem w_c4 : (Jvm.Cond.code ({ cls := "com/example/sluicegate/sluicegate/rule/HotParameterRule", name := "<init>", desc := "(Ljava/lang/String;IILcom/example/sluicegate/sluicegate/rule/HotParameterRule$Counts;IILcom/example/sluicegate/sluicegate/rule/HotParameterRule$Behaviour;JLjava/util/Map;)V" } : Jvm.MethodName) prog_38_method_2_code (11 : Nat) (Option.none : Option Jvm.ClassFile.FieldType)).before args0 about1 = true := code_word (m := ⟨4, 1⟩) (meth := k4m1) (c := k4c1) (by decide +kernel) rfl rfl rfl (by decide +kernel)
set_option maxRecDepth 65536 in
theorem w_c5 : (Jvm.Cond.code ({ cls := "java/lang/Object", name := "<init>", desc := "()V" } : Jvm.MethodName) object_method_1_code (1 : Nat) (Option.none : Option Jvm.ClassFile.FieldType)).before args0 about1 = true := code_word (m := ⟨0, 0⟩) (meth := k0m0) (c := k0c0) (by decide +kernel) rfl rfl rfl (by decide +kernel)
set_option maxRecDepth 65536 in
theorem w_c6 : (Jvm.Cond.code ({ cls := "java/util/Objects", name := "requireNonNull", desc := "(Ljava/lang/Object;Ljava/lang/String;)Ljava/lang/Object;" } : Jvm.MethodName) jdk_31_method_11_code (2 : Nat) (Option.some (Jvm.ClassFile.FieldType.object "java/lang/Object"))).before args0 about1 = true := code_word (m := ⟨16, 1⟩) (meth := k16m1) (c := k16c1) (by decide +kernel) rfl rfl rfl (by decide +kernel)
set_option maxRecDepth 65536 in
theorem w_c7 : (Jvm.Cond.code ({ cls := "com/example/sluicegate/sluicegate/rule/HotParameterRule", name := "withDurationSeconds", desc := "(I)Lcom/example/sluicegate/sluicegate/rule/HotParameterRule;" } : Jvm.MethodName) prog_38_method_4_code (2 : Nat) (Option.some (Jvm.ClassFile.FieldType.object "com/example/sluicegate/sluicegate/rule/HotParameterRule"))).before args0 about1 = true := code_word (m := ⟨4, 2⟩) (meth := k4m2) (c := k4c2) (by decide +kernel) rfl rfl rfl (by decide +kernel)
set_option maxRecDepth 65536 in
theorem w_c8 : (Jvm.Cond.code ({ cls := "com/example/sluicegate/sluicegate/rule/HotParameterRule", name := "withUniformQueueing", desc := "(J)Lcom/example/sluicegate/sluicegate/rule/HotParameterRule;" } : Jvm.MethodName) prog_38_method_8_code (3 : Nat) (Option.some (Jvm.ClassFile.FieldType.object "com/example/sluicegate/sluicegate/rule/HotParameterRule"))).before args0 about1 = true := code_word (m := ⟨4, 3⟩) (meth := k4m3) (c := k4c3) (by decide +kernel) rfl rfl rfl (by decide +kernel)
set_option maxRecDepth 65536 in
theorem w_c9 : (Jvm.Cond.code ({ cls := "com/example/sluicegate/sluicegate/rule/PacedValues", name := "<init>", desc := "(Lcom/example/sluicegate/sluicegate/rule/HotParameterRule;)V" } : Jvm.MethodName) prog_57_method_1_code (2 : Nat) (Option.none : Option Jvm.ClassFile.FieldType)).before args0 about1 = true := code_word (m := ⟨18, 0⟩) (meth := k18m0) (c := k18c0) (by decide +kernel) rfl rfl rfl (by decide +kernel)
set_option maxRecDepth 65536 in
theorem w_c10 : (Jvm.Cond.code ({ cls := "com/example/sluicegate/sluicegate/rule/HotValues", name := "<init>", desc := "(Lcom/example/sluicegate/sluicegate/rule/HotParameterRule;)V" } : Jvm.MethodName) prog_46_method_1_code (2 : Nat) (Option.none : Option Jvm.ClassFile.FieldType)).before args0 about1 = true := code_word (m := ⟨17, 0⟩) (meth := k17m0) (c := k17c0) (by decide +kernel) rfl rfl rfl (by decide +kernel)
set_option maxRecDepth 65536 in
theorem w_c11 : (Jvm.Cond.code ({ cls := "com/example/sluicegate/sluicegate/rule/ValueShards", name := "<init>", desc := "()V" } : Jvm.MethodName) prog_82_method_1_code (2 : Nat) (Option.none : Option Jvm.ClassFile.FieldType)).before args0 about1 = true := code_word (m := ⟨19, 0⟩) (meth := k19m0) (c := k19c0) (by decide +kernel) rfl rfl rfl (by decide +kernel)
set_option maxRecDepth 65536 in
theorem w_c12 : (Jvm.Cond.code ({ cls := "com/example/sluicegate/sluicegate/rule/SpinLock", name := "<init>", desc := "(I)V" } : Jvm.MethodName) prog_77_method_1_code (2 : Nat) (Option.none : Option Jvm.ClassFile.FieldType)).before args0 about1 = true := code_word (m := ⟨20, 0⟩) (meth := k20m0) (c := k20c0) (by decide +kernel) rfl rfl rfl (by decide +kernel)
set_option maxRecDepth 65536 in
theorem w_c13 : (Jvm.Cond.code ({ cls := "com/example/sluicegate/sluicegate/rule/ValueShards$Shard", name := "<init>", desc := "(I)V" } : Jvm.MethodName) prog_83_method_1_code (2 : Nat) (Option.none : Option Jvm.ClassFile.FieldType)).before args0 about1 = true := code_word (m := ⟨21, 0⟩) (meth := k21m0) (c := k21c0) (by decide +kernel) rfl rfl rfl (by decide +kernel)
set_option maxRecDepth 65536 in
theorem w_c14 : (Jvm.Cond.code ({ cls := "java/util/HashMap", name := "<init>", desc := "()V" } : Jvm.MethodName) jdk_69_method_7_code (1 : Nat) (Option.none : Option Jvm.ClassFile.FieldType)).before args0 about1 = true := code_word (m := ⟨24, 0⟩) (meth := k24m0) (c := k24c0) (by decide +kernel) rfl rfl rfl (by decide +kernel)
set_option maxRecDepth 65536 in
theorem w_c15 : (Jvm.Cond.code ({ cls := "java/util/AbstractMap", name := "<init>", desc := "()V" } : Jvm.MethodName) jdk_71_method_1_code (1 : Nat) (Option.none : Option Jvm.ClassFile.FieldType)).before args0 about1 = true := code_word (m := ⟨22, 0⟩) (meth := k22m0) (c := k22c0) (by decide +kernel) rfl rfl rfl (by decide +kernel)
set_option maxRecDepth 65536 in
theorem w_c16 : (Jvm.Cond.code ({ cls := "java/util/concurrent/atomic/AtomicInteger", name := "<init>", desc := "()V" } : Jvm.MethodName) jdk_2803_method_2_code (1 : Nat) (Option.none : Option Jvm.ClassFile.FieldType)).before args0 about1 = true := code_word (m := ⟨26, 0⟩) (meth := k26m0) (c := k26c0) (by decide +kernel) rfl rfl rfl (by decide +kernel)
set_option maxRecDepth 65536 in
theorem w_c17 : (Jvm.Cond.code ({ cls := "java/lang/Number", name := "<init>", desc := "()V" } : Jvm.MethodName) jdk_18_method_1_code (1 : Nat) (Option.none : Option Jvm.ClassFile.FieldType)).before args0 about1 = true := code_word (m := ⟨25, 0⟩) (meth := k25m0) (c := k25c0) (by decide +kernel) rfl rfl rfl (by decide +kernel)
set_option maxRecDepth 65536 in
theorem w_c18 : (Jvm.Cond.code ({ cls := "java/util/concurrent/atomic/AtomicLong", name := "<init>", desc := "()V" } : Jvm.MethodName) jdk_2805_method_3_code (1 : Nat) (Option.none : Option Jvm.ClassFile.FieldType)).before args0 about1 = true := code_word (m := ⟨27, 0⟩) (meth := k27m0) (c := k27c0) (by decide +kernel) rfl rfl rfl (by decide +kernel)
set_option maxRecDepth 65536 in
theorem w_c19 : (Jvm.Cond.code ({ cls := "com/example/sluicegate/sluicegate/rule/HotParameterRule", name := "durationSeconds", desc := "()I" } : Jvm.MethodName) prog_38_method_16_code (1 : Nat) (Option.some Jvm.ClassFile.FieldType.int)).before args0 about1 = true := code_word (m := ⟨4, 4⟩) (meth := k4m4) (c := k4c4) (by decide +kernel) rfl rfl rfl (by decide +kernel)
set_option maxRecDepth 65536 in
theorem w_c20 : (Jvm.Cond.code ({ cls := "java/util/concurrent/TimeUnit", name := "toMillis", desc := "(J)J" } : Jvm.MethodName) jdk_2799_method_9_code (7 : Nat) (Option.some Jvm.ClassFile.FieldType.long)).before args0 about1 = true := code_word (m := ⟨28, 1⟩) (meth := k28m1) (c := k28c1) (by decide +kernel) rfl rfl rfl (by decide +kernel)
set_option maxRecDepth 65536 in
theorem w_c21 : (Jvm.Cond.code ({ cls := "java/util/concurrent/TimeUnit", name := "toNanos", desc := "(J)J" } : Jvm.MethodName) jdk_2799_method_7_code (7 : Nat) (Option.some Jvm.ClassFile.FieldType.long)).before args0 about1 = true := code_word (m := ⟨28, 0⟩) (meth := k28m0) (c := k28c0) (by decide +kernel) rfl rfl rfl (by decide +kernel)
set_option maxRecDepth 65536 in
theorem w_c22 : (Jvm.Cond.code ({ cls := "com/example/sluicegate/sluicegate/rule/HotParameterRule", name := "maxQueueingMillis", desc := "()J" } : Jvm.MethodName) prog_38_method_19_code (1 : Nat) (Option.some Jvm.ClassFile.FieldType.long)).before args0 about1 = true := code_word (m := ⟨4, 5⟩) (meth := k4m5) (c := k4c5) (by decide +kernel) rfl rfl rfl (by decide +kernel)
set_option maxRecDepth 65536 in
theorem w_c23 : (Jvm.Cond.code ({ cls := "com/example/sluicegate/sluicegate/rule/Slot", name := "<init>", desc := "(J)V" } : Jvm.MethodName) prog_76_method_1_code (3 : Nat) (Option.none : Option Jvm.ClassFile.FieldType)).before args0 about1 = true := code_word (m := ⟨29, 0⟩) (meth := k29m0) (c := k29c0) (by decide +kernel) rfl rfl rfl (by decide +kernel)
set_option maxRecDepth 65536 in
theorem w_c24 : (Jvm.Cond.code ({ cls := "com/example/sluicegate/sluicegate/rule/Slot", name := "waitAtLeast", desc := "(J)V" } : Jvm.MethodName) prog_76_method_5_code (3 : Nat) (Option.none : Option Jvm.ClassFile.FieldType)).before args0 about1 = true := code_word (m := ⟨29, 4⟩) (meth := k29m4) (c := k29c4) (by decide +kernel) rfl rfl rfl (by decide +kernel)
set_option maxRecDepth 65536 in
theorem w_c25 : (Jvm.Cond.code ({ cls := "java/lang/Math", name := "max", desc := "(JJ)J" } : Jvm.MethodName) jdk_29_method_66_code (4 : Nat) (Option.some Jvm.ClassFile.FieldType.long)).before args0 about1 = true := code_word (m := ⟨2, 2⟩) (meth := k2m2) (c := k2c2) (by decide +kernel) rfl rfl rfl (by decide +kernel)
set_option maxRecDepth 65536 in
theorem w_c26 : (Jvm.Cond.code ({ cls := "com/example/sluicegate/sluicegate/rule/PacedValues", name := "made", desc := "(Ljava/lang/Object;Lcom/example/sluicegate/sluicegate/rule/ValueShards$Shard;JJJLcom/example/sluicegate/sluicegate/rule/Slot;J)Lcom/example/sluicegate/sluicegate/rule/HotValues$Kept;" } : Jvm.MethodName) prog_57_method_3_code (12 : Nat) (Option.some (Jvm.ClassFile.FieldType.object "com/example/sluicegate/sluicegate/rule/HotValues$Kept"))).before args0 about1 = true := code_word (m := ⟨18, 1⟩) (meth := k18m1) (c := k18c1) (by decide +kernel) rfl rfl rfl (by decide +kernel)
set_option maxRecDepth 65536 in
theorem w_c27 : (Jvm.Cond.code ({ cls := "com/example/sluicegate/sluicegate/rule/PacedValues", name := "calledNanos", desc := "(Lcom/example/sluicegate/sluicegate/rule/Slot;J)J" } : Jvm.MethodName) prog_57_method_11_code (4 : Nat) (Option.some Jvm.ClassFile.FieldType.long)).before args0 about1 = true := code_word (m := ⟨18, 3⟩) (meth := k18m3) (c := k18c3) (by decide +kernel) rfl rfl rfl (by decide +kernel)
set_option maxRecDepth 65536 in
theorem w_c28 : (Jvm.Cond.code ({ cls := "com/example/sluicegate/sluicegate/rule/Slot", name := "fromNanos", desc := "()J" } : Jvm.MethodName) prog_76_method_2_code (1 : Nat) (Option.some Jvm.ClassFile.FieldType.long)).before args0 about1 = true := code_word (m := ⟨29, 1⟩) (meth := k29m1) (c := k29c1) (by decide +kernel) rfl rfl rfl (by decide +kernel)
set_option maxRecDepth 65536 in
theorem w_c29 : (Jvm.Cond.code ({ cls := "com/example/sluicegate/sluicegate/rule/Slot", name := "waitNanos", desc := "()J" } : Jvm.MethodName) prog_76_method_3_code (1 : Nat) (Option.some Jvm.ClassFile.FieldType.long)).before args0 about1 = true := code_word (m := ⟨29, 2⟩) (meth := k29m2) (c := k29c2) (by decide +kernel) rfl rfl rfl (by decide +kernel)
set_option maxRecDepth 65536 in
theorem w_c30 : (Jvm.Cond.code ({ cls := "com/example/sluicegate/sluicegate/rule/PacedValues", name := "permitNanos", desc := "(J)J" } : Jvm.MethodName) prog_57_method_12_code (3 : Nat) (Option.some Jvm.ClassFile.FieldType.long)).before args0 about1 = true := code_word (m := ⟨18, 4⟩) (meth := k18m4) (c := k18c4) (by decide +kernel) rfl rfl rfl (by decide +kernel)
set_option maxRecDepth 65536 in
theorem w_c31 : (Jvm.Cond.code ({ cls := "com/example/sluicegate/sluicegate/rule/HotValues", name := "scaled", desc := "(JJJLjava/math/RoundingMode;)J" } : Jvm.MethodName) prog_46_method_46_code (11 : Nat) (Option.some Jvm.ClassFile.FieldType.long)).before args0 about1 = true := code_word (m := ⟨17, 1⟩) (meth := k17m1) (c := k17c1) (by decide +kernel) rfl rfl rfl (by decide +kernel)
set_option maxRecDepth 65536 in
theorem w_c32 : (Jvm.Cond.code ({ cls := "java/lang/Math", name := "min", desc := "(JJ)J" } : Jvm.MethodName) jdk_29_method_70_code (4 : Nat) (Option.some Jvm.ClassFile.FieldType.long)).before args0 about1 = true := code_word (m := ⟨2, 3⟩) (meth := k2m3) (c := k2c3) (by decide +kernel) rfl rfl rfl (by decide +kernel)
set_option maxRecDepth 65536 in
theorem w_c33 : (Jvm.Cond.code ({ cls := "com/example/sluicegate/sluicegate/rule/Slot", name := "slotNanos", desc := "()J" } : Jvm.MethodName) prog_76_method_4_code (1 : Nat) (Option.some Jvm.ClassFile.FieldType.long)).before args0 about1 = true := code_word (m := ⟨29, 3⟩) (meth := k29m3) (c := k29c3) (by decide +kernel) rfl rfl rfl (by decide +kernel)
set_option maxRecDepth 65536 in
theorem w_c34 : (Jvm.Cond.code ({ cls := "com/example/sluicegate/sluicegate/rule/PacedValues$Latest", name := "<init>", desc := "(Ljava/lang/Object;Lcom/example/sluicegate/sluicegate/rule/ValueShards$Shard;JJJJ)V" } : Jvm.MethodName) prog_58_method_1_code (11 : Nat) (Option.none : Option Jvm.ClassFile.FieldType)).before args0 about1 = true := code_word (m := ⟨31, 0⟩) (meth := k31m0) (c := k31c0) (by decide +kernel) rfl rfl rfl (by decide +kernel)
set_option maxRecDepth 65536 in
theorem w_c35 : (Jvm.Cond.code ({ cls := "com/example/sluicegate/sluicegate/rule/HotValues$Kept", name := "<init>", desc := "(Ljava/lang/Object;Lcom/example/sluicegate/sluicegate/rule/ValueShards$Shard;JJJ)V" } : Jvm.MethodName) prog_47_method_1_code (9 : Nat) (Option.none : Option Jvm.ClassFile.FieldType)).before args0 about1 = true := code_word (m := ⟨30, 0⟩) (meth := k30m0) (c := k30c0) (by decide +kernel) rfl rfl rfl (by decide +kernel)
set_option maxRecDepth 65536 in
theorem w_c36 : (Jvm.Cond.code ({ cls := "com/example/sluicegate/sluicegate/rule/PacedValues", name := "freshFrom", desc := "(Lcom/example/sluicegate/sluicegate/rule/HotValues$Kept;J)J" } : Jvm.MethodName) prog_57_method_5_code (6 : Nat) (Option.some Jvm.ClassFile.FieldType.long)).before args0 about1 = true := code_word (m := ⟨18, 2⟩) (meth := k18m2) (c := k18c2) (by decide +kernel) rfl rfl rfl (by decide +kernel)
def codes1 : List Jvm.Cond := [Jvm.Cond.code x code maxLocals ret, Jvm.Cond.code ({ cls := "java/lang/Math", name := "max", desc := "(II)I" } : Jvm.MethodName) jdk_29_method_65_code (2 : Nat) (Option.some Jvm.ClassFile.FieldType.int), Jvm.Cond.code ({ cls := "com/example/sluicegate/sluicegate/rule/HotParameterRule", name := "<init>", desc := "(Ljava/lang/String;II)V" } : Jvm.MethodName) prog_38_method_1_code (4 : Nat) (Option.none : Option Jvm.ClassFile.FieldType), Jvm.Cond.code ({ cls := "java/util/Map", name := "of", desc := "()Ljava/util/Map;" } : Jvm.MethodName) jdk_72_method_26_code (0 : Nat) (Option.some (Jvm.ClassFile.FieldType.object "java/util/Map")), Jvm.Cond.code ({ cls := "com/example/sluicegate/sluicegate/rule/HotParameterRule", name := "<init>", desc := "(Ljava/lang/String;IILcom/example/sluicegate/sluicegate/rule/HotParameterRule$Counts;IILcom/example/sluicegate/sluicegate/rule/HotParameterRule$Behaviour;JLjava/util/Map;)V" } : Jvm.MethodName) prog_38_method_2_code (11 : Nat) (Option.none : Option Jvm.ClassFile.FieldType), Jvm.Cond.code ({ cls := "java/lang/Object", name := "<init>", desc := "()V" } : Jvm.MethodName) object_method_1_code (1 : Nat) (Option.none : Option Jvm.ClassFile.FieldType), Jvm.Cond.code ({ cls := "java/util/Objects", name := "requireNonNull", desc := "(Ljava/lang/Object;Ljava/lang/String;)Ljava/lang/Object;" } : Jvm.MethodName) jdk_31_method_11_code (2 : Nat) (Option.some (Jvm.ClassFile.FieldType.object "java/lang/Object")), Jvm.Cond.code ({ cls := "com/example/sluicegate/sluicegate/rule/HotParameterRule", name := "withDurationSeconds", desc := "(I)Lcom/example/sluicegate/sluicegate/rule/HotParameterRule;" } : Jvm.MethodName) prog_38_method_4_code (2 : Nat) (Option.some (Jvm.ClassFile.FieldType.object "com/example/sluicegate/sluicegate/rule/HotParameterRule")), Jvm.Cond.code ({ cls := "com/example/sluicegate/sluicegate/rule/HotParameterRule", name := "withUniformQueueing", desc := "(J)Lcom/example/sluicegate/sluicegate/rule/HotParameterRule;" } : Jvm.MethodName) prog_38_method_8_code (3 : Nat) (Option.some (Jvm.ClassFile.FieldType.object "com/example/sluicegate/sluicegate/rule/HotParameterRule")), Jvm.Cond.code ({ cls := "com/example/sluicegate/sluicegate/rule/PacedValues", name := "<init>", desc := "(Lcom/example/sluicegate/sluicegate/rule/HotParameterRule;)V" } : Jvm.MethodName) prog_57_method_1_code (2 : Nat) (Option.none : Option Jvm.ClassFile.FieldType), Jvm.Cond.code ({ cls := "com/example/sluicegate/sluicegate/rule/HotValues", name := "<init>", desc := "(Lcom/example/sluicegate/sluicegate/rule/HotParameterRule;)V" } : Jvm.MethodName) prog_46_method_1_code (2 : Nat) (Option.none : Option Jvm.ClassFile.FieldType), Jvm.Cond.code ({ cls := "com/example/sluicegate/sluicegate/rule/ValueShards", name := "<init>", desc := "()V" } : Jvm.MethodName) prog_82_method_1_code (2 : Nat) (Option.none : Option Jvm.ClassFile.FieldType), Jvm.Cond.code ({ cls := "com/example/sluicegate/sluicegate/rule/SpinLock", name := "<init>", desc := "(I)V" } : Jvm.MethodName) prog_77_method_1_code (2 : Nat) (Option.none : Option Jvm.ClassFile.FieldType), Jvm.Cond.code ({ cls := "com/example/sluicegate/sluicegate/rule/ValueShards$Shard", name := "<init>", desc := "(I)V" } : Jvm.MethodName) prog_83_method_1_code (2 : Nat) (Option.none : Option Jvm.ClassFile.FieldType), Jvm.Cond.code ({ cls := "java/util/HashMap", name := "<init>", desc := "()V" } : Jvm.MethodName) jdk_69_method_7_code (1 : Nat) (Option.none : Option Jvm.ClassFile.FieldType), Jvm.Cond.code ({ cls := "java/util/AbstractMap", name := "<init>", desc := "()V" } : Jvm.MethodName) jdk_71_method_1_code (1 : Nat) (Option.none : Option Jvm.ClassFile.FieldType), Jvm.Cond.code ({ cls := "java/util/concurrent/atomic/AtomicInteger", name := "<init>", desc := "()V" } : Jvm.MethodName) jdk_2803_method_2_code (1 : Nat) (Option.none : Option Jvm.ClassFile.FieldType), Jvm.Cond.code ({ cls := "java/lang/Number", name := "<init>", desc := "()V" } : Jvm.MethodName) jdk_18_method_1_code (1 : Nat) (Option.none : Option Jvm.ClassFile.FieldType), Jvm.Cond.code ({ cls := "java/util/concurrent/atomic/AtomicLong", name := "<init>", desc := "()V" } : Jvm.MethodName) jdk_2805_method_3_code (1 : Nat) (Option.none : Option Jvm.ClassFile.FieldType), Jvm.Cond.code ({ cls := "com/example/sluicegate/sluicegate/rule/HotParameterRule", name := "durationSeconds", desc := "()I" } : Jvm.MethodName) prog_38_method_16_code (1 : Nat) (Option.some Jvm.ClassFile.FieldType.int), Jvm.Cond.code ({ cls := "java/util/concurrent/TimeUnit", name := "toMillis", desc := "(J)J" } : Jvm.MethodName) jdk_2799_method_9_code (7 : Nat) (Option.some Jvm.ClassFile.FieldType.long), Jvm.Cond.code ({ cls := "java/util/concurrent/TimeUnit", name := "toNanos", desc := "(J)J" } : Jvm.MethodName) jdk_2799_method_7_code (7 : Nat) (Option.some Jvm.ClassFile.FieldType.long), Jvm.Cond.code ({ cls := "com/example/sluicegate/sluicegate/rule/HotParameterRule", name := "maxQueueingMillis", desc := "()J" } : Jvm.MethodName) prog_38_method_19_code (1 : Nat) (Option.some Jvm.ClassFile.FieldType.long), Jvm.Cond.code ({ cls := "com/example/sluicegate/sluicegate/rule/Slot", name := "<init>", desc := "(J)V" } : Jvm.MethodName) prog_76_method_1_code (3 : Nat) (Option.none : Option Jvm.ClassFile.FieldType), Jvm.Cond.code ({ cls := "com/example/sluicegate/sluicegate/rule/Slot", name := "waitAtLeast", desc := "(J)V" } : Jvm.MethodName) prog_76_method_5_code (3 : Nat) (Option.none : Option Jvm.ClassFile.FieldType), Jvm.Cond.code ({ cls := "java/lang/Math", name := "max", desc := "(JJ)J" } : Jvm.MethodName) jdk_29_method_66_code (4 : Nat) (Option.some Jvm.ClassFile.FieldType.long), Jvm.Cond.code ({ cls := "com/example/sluicegate/sluicegate/rule/PacedValues", name := "made", desc := "(Ljava/lang/Object;Lcom/example/sluicegate/sluicegate/rule/ValueShards$Shard;JJJLcom/example/sluicegate/sluicegate/rule/Slot;J)Lcom/example/sluicegate/sluicegate/rule/HotValues$Kept;" } : Jvm.MethodName) prog_57_method_3_code (12 : Nat) (Option.some (Jvm.ClassFile.FieldType.object "com/example/sluicegate/sluicegate/rule/HotValues$Kept")), Jvm.Cond.code ({ cls := "com/example/sluicegate/sluicegate/rule/PacedValues", name := "calledNanos", desc := "(Lcom/example/sluicegate/sluicegate/rule/Slot;J)J" } : Jvm.MethodName) prog_57_method_11_code (4 : Nat) (Option.some Jvm.ClassFile.FieldType.long), Jvm.Cond.code ({ cls := "com/example/sluicegate/sluicegate/rule/Slot", name := "fromNanos", desc := "()J" } : Jvm.MethodName) prog_76_method_2_code (1 : Nat) (Option.some Jvm.ClassFile.FieldType.long), Jvm.Cond.code ({ cls := "com/example/sluicegate/sluicegate/rule/Slot", name := "waitNanos", desc := "()J" } : Jvm.MethodName) prog_76_method_3_code (1 : Nat) (Option.some Jvm.ClassFile.FieldType.long), Jvm.Cond.code ({ cls := "com/example/sluicegate/sluicegate/rule/PacedValues", name := "permitNanos", desc := "(J)J" } : Jvm.MethodName) prog_57_method_12_code (3 : Nat) (Option.some Jvm.ClassFile.FieldType.long), Jvm.Cond.code ({ cls := "com/example/sluicegate/sluicegate/rule/HotValues", name := "scaled", desc := "(JJJLjava/math/RoundingMode;)J" } : Jvm.MethodName) prog_46_method_46_code (11 : Nat) (Option.some Jvm.ClassFile.FieldType.long), Jvm.Cond.code ({ cls := "java/lang/Math", name := "min", desc := "(JJ)J" } : Jvm.MethodName) jdk_29_method_70_code (4 : Nat) (Option.some Jvm.ClassFile.FieldType.long), Jvm.Cond.code ({ cls := "com/example/sluicegate/sluicegate/rule/Slot", name := "slotNanos", desc := "()J" } : Jvm.MethodName) prog_76_method_4_code (1 : Nat) (Option.some Jvm.ClassFile.FieldType.long), Jvm.Cond.code ({ cls := "com/example/sluicegate/sluicegate/rule/PacedValues$Latest", name := "<init>", desc := "(Ljava/lang/Object;Lcom/example/sluicegate/sluicegate/rule/ValueShards$Shard;JJJJ)V" } : Jvm.MethodName) prog_58_method_1_code (11 : Nat) (Option.none : Option Jvm.ClassFile.FieldType), Jvm.Cond.code ({ cls := "com/example/sluicegate/sluicegate/rule/HotValues$Kept", name := "<init>", desc := "(Ljava/lang/Object;Lcom/example/sluicegate/sluicegate/rule/ValueShards$Shard;JJJ)V" } : Jvm.MethodName) prog_47_method_1_code (9 : Nat) (Option.none : Option Jvm.ClassFile.FieldType), Jvm.Cond.code ({ cls := "com/example/sluicegate/sluicegate/rule/PacedValues", name := "freshFrom", desc := "(Lcom/example/sluicegate/sluicegate/rule/HotValues$Kept;J)J" } : Jvm.MethodName) prog_57_method_5_code (6 : Nat) (Option.some Jvm.ClassFile.FieldType.long)]
set_option maxRecDepth 65536 in
theorem codes_eq : words1.filter isCode = codes1 := rfl
theorem w_codes : ∀ c ∈ words1.filter isCode, c.before args0 about1 = true := by
  rw [codes_eq]
  intro c hc
  simp only [codes1, List.mem_cons, List.not_mem_nil, or_false] at hc
  rcases hc with rfl | rfl | rfl | rfl | rfl | rfl | rfl | rfl | rfl | rfl | rfl | rfl | rfl | rfl | rfl | rfl | rfl | rfl | rfl | rfl | rfl | rfl | rfl | rfl | rfl | rfl | rfl | rfl | rfl | rfl | rfl | rfl | rfl | rfl | rfl | rfl | rfl
  · exact w_c0
  · exact w_c1
  · exact w_c2
  · exact w_c3
  · exact w_c4
  · exact w_c5
  · exact w_c6
  · exact w_c7
  · exact w_c8
  · exact w_c9
  · exact w_c10
  · exact w_c11
  · exact w_c12
  · exact w_c13
  · exact w_c14
  · exact w_c15
  · exact w_c16
  · exact w_c17
  · exact w_c18
  · exact w_c19
  · exact w_c20
  · exact w_c21
  · exact w_c22
  · exact w_c23
  · exact w_c24
  · exact w_c25
  · exact w_c26
  · exact w_c27
  · exact w_c28
  · exact w_c29
  · exact w_c30
  · exact w_c31
  · exact w_c32
  · exact w_c33
  · exact w_c34
  · exact w_c35
  · exact w_c36
set_option maxRecDepth 65536 in
theorem w_t1 : (words1.take 24).all (fun c => isCode c || c.before args0 about1) = true := by decide +kernel
set_option maxRecDepth 65536 in
theorem w_t2 : ((words1.drop 24).take 24).all (fun c => isCode c || c.before args0 about1) = true := by decide +kernel
set_option maxRecDepth 65536 in
theorem w_t3 : (((words1.drop 24).drop 24).take 24).all (fun c => isCode c || c.before args0 about1) = true := by decide +kernel
set_option maxRecDepth 65536 in
theorem w_t4 : ((((words1.drop 24).drop 24).drop 24).take 24).all (fun c => isCode c || c.before args0 about1) = true := by decide +kernel
set_option maxRecDepth 65536 in
theorem w_t5 : (((((words1.drop 24).drop 24).drop 24).drop 24).take 24).all (fun c => isCode c || c.before args0 about1) = true := by decide +kernel
set_option maxRecDepth 65536 in
theorem w_t6 : ((((((words1.drop 24).drop 24).drop 24).drop 24).drop 24).take 24).all (fun c => isCode c || c.before args0 about1) = true := by decide +kernel
set_option maxRecDepth 65536 in
theorem w_t7 : (((((((words1.drop 24).drop 24).drop 24).drop 24).drop 24).drop 24).take 24).all (fun c => isCode c || c.before args0 about1) = true := by decide +kernel
set_option maxRecDepth 65536 in
theorem w_t8 : ((((((((words1.drop 24).drop 24).drop 24).drop 24).drop 24).drop 24).drop 24).take 24).all (fun c => isCode c || c.before args0 about1) = true := by decide +kernel
set_option maxRecDepth 65536 in
theorem w_t9 : (((((((((words1.drop 24).drop 24).drop 24).drop 24).drop 24).drop 24).drop 24).drop 24).take 24).all (fun c => isCode c || c.before args0 about1) = true := by decide +kernel
set_option maxRecDepth 65536 in
theorem w_t10 : ((((((((((words1.drop 24).drop 24).drop 24).drop 24).drop 24).drop 24).drop 24).drop 24).drop 24).take 24).all (fun c => isCode c || c.before args0 about1) = true := by decide +kernel
set_option maxRecDepth 65536 in
theorem w_t11 : (((((((((((words1.drop 24).drop 24).drop 24).drop 24).drop 24).drop 24).drop 24).drop 24).drop 24).drop 24).take 24).all (fun c => isCode c || c.before args0 about1) = true := by decide +kernel
set_option maxRecDepth 65536 in
theorem w_t12 : ((((((((((((words1.drop 24).drop 24).drop 24).drop 24).drop 24).drop 24).drop 24).drop 24).drop 24).drop 24).drop 24).take 24).all (fun c => isCode c || c.before args0 about1) = true := by decide +kernel
set_option maxRecDepth 65536 in
theorem w_t13 : ((((((((((((words1.drop 24).drop 24).drop 24).drop 24).drop 24).drop 24).drop 24).drop 24).drop 24).drop 24).drop 24).drop 24).all (fun c => isCode c || c.before args0 about1) = true := by decide +kernel
theorem w_tables : (allAtoms (Jvm.Cond.code x code maxLocals ret :: tables_1)).before args0 about1 = true := by
  rw [allAtoms_all]
  show words1.all (fun c => c.before args0 about1) = true
  refine all_split ?_ w_codes
  rw [← List.take_append_drop 24 words1, List.all_append, w_t1, ← List.take_append_drop 24 (words1.drop 24), List.all_append, w_t2, ← List.take_append_drop 24 ((words1.drop 24).drop 24), List.all_append, w_t3, ← List.take_append_drop 24 (((words1.drop 24).drop 24).drop 24), List.all_append, w_t4, ← List.take_append_drop 24 ((((words1.drop 24).drop 24).drop 24).drop 24), List.all_append, w_t5, ← List.take_append_drop 24 (((((words1.drop 24).drop 24).drop 24).drop 24).drop 24), List.all_append, w_t6, ← List.take_append_drop 24 ((((((words1.drop 24).drop 24).drop 24).drop 24).drop 24).drop 24), List.all_append, w_t7, ← List.take_append_drop 24 (((((((words1.drop 24).drop 24).drop 24).drop 24).drop 24).drop 24).drop 24), List.all_append, w_t8, ← List.take_append_drop 24 ((((((((words1.drop 24).drop 24).drop 24).drop 24).drop 24).drop 24).drop 24).drop 24), List.all_append, w_t9, ← List.take_append_drop 24 (((((((((words1.drop 24).drop 24).drop 24).drop 24).drop 24).drop 24).drop 24).drop 24).drop 24), List.all_append, w_t10, ← List.take_append_drop 24 ((((((((((words1.drop 24).drop 24).drop 24).drop 24).drop 24).drop 24).drop 24).drop 24).drop 24).drop 24), List.all_append, w_t11, ← List.take_append_drop 24 (((((((((((words1.drop 24).drop 24).drop 24).drop 24).drop 24).drop 24).drop 24).drop 24).drop 24).drop 24).drop 24), List.all_append, w_t12, w_t13]
  rfl
set_option maxRecDepth 65536 in
theorem w_rest : rest_1_c.before args0 about1 = true := by decide +kernel
set_option maxRecDepth 65536 in
theorem w_case : (Jvm.Cond.and given_1 narrow_1).before args0 about1 = true := by decide +kernel
theorem w_applies : (headSpec (Jvm.Cond.code x code maxLocals ret :: tables_1) room_1).applies x e0.platform about1 = true :=
  (Spec.applies_iff w_frames).mpr ⟨w_running, w_runnable, w_alone, w_named, w_hears, w_ripe, w_room, w_tables⟩
theorem atStart : AtStart classFile x code maxLocals ret World_1 tables_1 room_1 Calls_1 rest_1 Pre_1 launch0 p0 e0 about1 theMethod args0 below0 :=
  ⟨lists_1, trivial, launch0.admits_env _ _ _, launch0.least_env, fairChoices_fair.cas, fairChoices_fair.clock, w_frames, w_args, w_heap, w_applies, trivial, w_rest, w_case⟩
end start1
theorem witness_1 : WitnessClaimed_1 := ⟨start1.p0, start1.e0, start1.about1, start1.theMethod, start1.args0, start1.below0, start1.atStart⟩
end Jvm.Pilot.@@N@@
