import JvmDerived
import JvmDerived.Pilot.@@N@@Statement
import JvmDerived.Pilot.@@N@@Code
set_option linter.unusedVariables false
set_option linter.unusedSimpArgs false
namespace Jvm.Pilot.@@N@@
open Jvm Jvm.ClassFile Sem Op Lib Jvm.Free Jvm.Stand Jvm.LawKit Jvm.RoadKit Bundle Jvm.Pilot.@@N@@.Jvm.D
/-! own layer: the walk goes forward; own_G S: from S the body ends as F says -/
def own_G (tb : Tables) (e : Env) (below : List Frame) (F : Outcome → State → Prop) (S : State) : Prop :=
  ∃ s₂ o, Steps tb e below S s₂ ∧ s₂.status = .running ∧ Ended s₂ below o ∧ F o s₂
theorem own_go {tb : Tables} {e : Env} {below : List Frame} {F : Outcome → State → Prop} {A B : State} (st : ∀ t, Steps tb e below B t → Steps tb e below A t) (h : own_G tb e below F B) : own_G tb e below F A := by
  obtain ⟨t, o, h1, h2⟩ := h
  exact ⟨t, o, st t h1, h2⟩
theorem own_tr {tb : Tables} {e : Env} {below : List Frame} {F : Outcome → State → Prop} {A B : State} (st : Steps tb e below A B) (h : own_G tb e below F B) : own_G tb e below F A := own_go (fun _ k => st.trans k) h
theorem own_b {n k : Nat} (h : Nat.ble n k = true) : n ≤ k := Nat.le_of_ble_eq_true h
def own_yes {α : Type} [LT α] : ClassFile.Cond → α → α → Prop
  | .eq, x, y => x = y
  | .ne, x, y => ¬ x = y
  | .lt, x, y => x < y
  | .ge, x, y => ¬ x < y
  | .gt, x, y => y < x
  | .le, x, y => ¬ y < x
def own_no {α : Type} [LT α] : ClassFile.Cond → α → α → Prop
  | .eq, x, y => ¬ x = y
  | .ne, x, y => x = y
  | .lt, x, y => ¬ x < y
  | .ge, x, y => x < y
  | .gt, x, y => ¬ y < x
  | .le, x, y => y < x
theorem own_hy {cd : ClassFile.Cond} {x y : Int32} (h : own_yes cd x y) : if_icmp.holds cd x y = true := by
  cases cd
  · exact (teq h).1
  · exact (feq h).2
  · exact (tlt h).1
  · exact (flt h).2.1
  · exact (tlt h).2.2.1
  · exact (flt h).2.2.2
theorem own_hn {cd : ClassFile.Cond} {x y : Int32} (h : own_no cd x y) : if_icmp.holds cd x y = false := by
  cases cd
  · exact (feq h).1
  · exact (teq h).2
  · exact (flt h).1
  · exact (tlt h).2.1
  · exact (flt h).2.2.1
  · exact (tlt h).2.2.2
theorem own_yn {cd : ClassFile.Cond} {x y : Int32} : own_yes cd x y ∨ own_no cd x y := by
  cases cd
  · exact Classical.em _
  · exact (Classical.em _).symm
  · exact Classical.em _
  · exact (Classical.em _).symm
  · exact Classical.em _
  · exact (Classical.em _).symm
theorem own_ynL {cd : ClassFile.Cond} {x y : Int64} : own_yes cd x y ∨ own_no cd x y := by
  cases cd
  · exact Classical.em _
  · exact (Classical.em _).symm
  · exact Classical.em _
  · exact (Classical.em _).symm
  · exact Classical.em _
  · exact (Classical.em _).symm
theorem own_hyL {cd : ClassFile.Cond} {x y : Int64} (h : own_yes cd x y) : ifCond.holds cd (lcmpW x y) = true := by
  rw [if0]
  refine own_hy ?_
  cases cd
  · exact (lw_eq x y).mpr h
  · exact fun q => h ((lw_eq x y).mp q)
  · exact (lw_lt x y).mpr h
  · exact fun q => h ((lw_lt x y).mp q)
  · exact (lw_gt x y).mpr h
  · exact fun q => h ((lw_gt x y).mp q)
theorem own_hnL {cd : ClassFile.Cond} {x y : Int64} (h : own_no cd x y) : ifCond.holds cd (lcmpW x y) = false := by
  rw [if0]
  refine own_hn ?_
  cases cd
  · exact fun q => h ((lw_eq x y).mp q)
  · exact (lw_eq x y).mpr h
  · exact fun q => h ((lw_lt x y).mp q)
  · exact (lw_lt x y).mpr h
  · exact fun q => h ((lw_gt x y).mp q)
  · exact (lw_gt x y).mpr h
section Own
variable {p : Program} {l : Launch} {e : Env} {R : Room} {s : State} {m : MethodId} {args : Array Value} {below : List Frame} {meth : Method} {c : Code} {T : State} {locs : List Loc} {cells slots : Nat} {F : Outcome → State → Prop}
theorem own_icmpY (X : Stand p l e R s m args below meth c T locs cells slots) (hx : p.tables.exec = Jvm.exec) {cd : ClassFile.Cond} {x y : Int32} {o : Int} {pc pc' : Nat} {Ls : Array Slot} {rest : List Value} (hd : decode c.code pc = .ok (.if_icmp cd o, 3)) (ho : 0 ≤ (pc : Int) + o) (hp : ((pc : Int) + o).toNat = pc')
    (hc : own_yes cd x y) (h1 : own_G p.tables e below F (T.setTop (mkF m pc' Ls rest))) : own_G p.tables e below F (T.setTop (mkF m pc Ls (.int y :: .int x :: rest))) :=
  own_go (fun _ k => XS.icmpYes X.here hx rfl (pc0 := pc) (pc' := pc') rfl hd rfl (own_hy hc) ho hp k) h1
theorem own_icmpN (X : Stand p l e R s m args below meth c T locs cells slots) (hx : p.tables.exec = Jvm.exec) {cd : ClassFile.Cond} {x y : Int32} {o : Int} {pc pn : Nat} {Ls : Array Slot} {rest : List Value} (hd : decode c.code pc = .ok (.if_icmp cd o, 3)) (hq : pc + 3 = pn)
    (hc : own_no cd x y) (h1 : own_G p.tables e below F (T.setTop (mkF m pn Ls rest))) : own_G p.tables e below F (T.setTop (mkF m pc Ls (.int y :: .int x :: rest))) := by
  subst hq
  exact own_go (fun _ k => XS.icmpNo X.here hx rfl hd rfl (own_hn hc) k) h1
theorem own_icmp (X : Stand p l e R s m args below meth c T locs cells slots) (hx : p.tables.exec = Jvm.exec) {cd : ClassFile.Cond} {x y : Int32} {o : Int} {pc pc' pn : Nat} {Ls : Array Slot} {rest : List Value} (hd : decode c.code pc = .ok (.if_icmp cd o, 3)) (ho : 0 ≤ (pc : Int) + o) (hp : ((pc : Int) + o).toNat = pc') (hq : pc + 3 = pn)
    (h1 : own_yes cd x y → own_G p.tables e below F (T.setTop (mkF m pc' Ls rest))) (h2 : own_no cd x y → own_G p.tables e below F (T.setTop (mkF m pn Ls rest))) : own_G p.tables e below F (T.setTop (mkF m pc Ls (.int y :: .int x :: rest))) :=
  own_yn.elim (fun q => own_icmpY X hx hd ho hp q (h1 q)) (fun q => own_icmpN X hx hd hq q (h2 q))
theorem own_ifY (X : Stand p l e R s m args below meth c T locs cells slots) (hx : p.tables.exec = Jvm.exec) {cd : ClassFile.Cond} {x : Int32} {o : Int} {pc pc' : Nat} {Ls : Array Slot} {rest : List Value} (hd : decode c.code pc = .ok (.ifCond cd o, 3)) (ho : 0 ≤ (pc : Int) + o) (hp : ((pc : Int) + o).toNat = pc')
    (hc : own_yes cd x 0) (h1 : own_G p.tables e below F (T.setTop (mkF m pc' Ls rest))) : own_G p.tables e below F (T.setTop (mkF m pc Ls (.int x :: rest))) :=
  own_go (fun _ k => XS.ifYes X.here hx rfl (pc0 := pc) (pc' := pc') rfl hd rfl ((if0 cd x).trans (own_hy hc)) ho hp k) h1
theorem own_ifN (X : Stand p l e R s m args below meth c T locs cells slots) (hx : p.tables.exec = Jvm.exec) {cd : ClassFile.Cond} {x : Int32} {o : Int} {pc pn : Nat} {Ls : Array Slot} {rest : List Value} (hd : decode c.code pc = .ok (.ifCond cd o, 3)) (hq : pc + 3 = pn)
    (hc : own_no cd x 0) (h1 : own_G p.tables e below F (T.setTop (mkF m pn Ls rest))) : own_G p.tables e below F (T.setTop (mkF m pc Ls (.int x :: rest))) := by
  subst hq
  exact own_go (fun _ k => XS.ifNo X.here hx rfl hd rfl ((if0 cd x).trans (own_hn hc)) k) h1
theorem own_if (X : Stand p l e R s m args below meth c T locs cells slots) (hx : p.tables.exec = Jvm.exec) {cd : ClassFile.Cond} {x : Int32} {o : Int} {pc pc' pn : Nat} {Ls : Array Slot} {rest : List Value} (hd : decode c.code pc = .ok (.ifCond cd o, 3)) (ho : 0 ≤ (pc : Int) + o) (hp : ((pc : Int) + o).toNat = pc') (hq : pc + 3 = pn)
    (h1 : own_yes cd x 0 → own_G p.tables e below F (T.setTop (mkF m pc' Ls rest))) (h2 : own_no cd x 0 → own_G p.tables e below F (T.setTop (mkF m pn Ls rest))) : own_G p.tables e below F (T.setTop (mkF m pc Ls (.int x :: rest))) :=
  own_yn.elim (fun q => own_ifY X hx hd ho hp q (h1 q)) (fun q => own_ifN X hx hd hq q (h2 q))
theorem own_lifY (X : Stand p l e R s m args below meth c T locs cells slots) (hx : p.tables.exec = Jvm.exec) {cd : ClassFile.Cond} {x y : Int64} {o : Int} {pc pc' : Nat} {Ls : Array Slot} {rest : List Value} (hd : decode c.code pc = .ok (.ifCond cd o, 3)) (ho : 0 ≤ (pc : Int) + o) (hp : ((pc : Int) + o).toNat = pc')
    (hc : own_yes cd x y) (h1 : own_G p.tables e below F (T.setTop (mkF m pc' Ls rest))) : own_G p.tables e below F (T.setTop (mkF m pc Ls (.int (lcmpW x y) :: rest))) :=
  own_go (fun _ k => XS.ifYes X.here hx rfl (pc0 := pc) (pc' := pc') rfl hd rfl (own_hyL hc) ho hp k) h1
theorem own_lifN (X : Stand p l e R s m args below meth c T locs cells slots) (hx : p.tables.exec = Jvm.exec) {cd : ClassFile.Cond} {x y : Int64} {o : Int} {pc pn : Nat} {Ls : Array Slot} {rest : List Value} (hd : decode c.code pc = .ok (.ifCond cd o, 3)) (hq : pc + 3 = pn)
    (hc : own_no cd x y) (h1 : own_G p.tables e below F (T.setTop (mkF m pn Ls rest))) : own_G p.tables e below F (T.setTop (mkF m pc Ls (.int (lcmpW x y) :: rest))) := by
  subst hq
  exact own_go (fun _ k => XS.ifNo X.here hx rfl hd rfl (own_hnL hc) k) h1
theorem own_lif (X : Stand p l e R s m args below meth c T locs cells slots) (hx : p.tables.exec = Jvm.exec) {cd : ClassFile.Cond} {x y : Int64} {o : Int} {pc pc' pn : Nat} {Ls : Array Slot} {rest : List Value} (hd : decode c.code pc = .ok (.ifCond cd o, 3)) (ho : 0 ≤ (pc : Int) + o) (hp : ((pc : Int) + o).toNat = pc') (hq : pc + 3 = pn)
    (h1 : own_yes cd x y → own_G p.tables e below F (T.setTop (mkF m pc' Ls rest))) (h2 : own_no cd x y → own_G p.tables e below F (T.setTop (mkF m pn Ls rest))) : own_G p.tables e below F (T.setTop (mkF m pc Ls (.int (lcmpW x y) :: rest))) :=
  own_ynL.elim (fun q => own_lifY X hx hd ho hp q (h1 q)) (fun q => own_lifN X hx hd hq q (h2 q))
theorem own_ret (X : Stand p l e R s m args below meth c T locs cells slots) (hx : p.tables.exec = Jvm.exec) (hlk : meth.locks = false) {K N pc : Nat} {Ls : Array Slot} {w : Value} {t : FieldType} {i : Instr} {rest : List Value} {Q : Option Value → Heap → List Loc → Prop} (hret : meth.sig.returnType = some t) (hn : narrow t w = w)
    (hi : (i = .ireturn ∧ (t = .int ∨ t = .boolean ∨ t = .byte ∨ t = .char ∨ t = .short) ∧ ∃ z, w = .int z) ∨ (i = .lreturn ∧ t = .long ∧ ∃ z, w = .long z) ∨ (i = .dreturn ∧ t = .double ∧ ∃ z, w = .double z) ∨ (i = .freturn ∧ t = .float ∧ ∃ z, w = .float z) ∨ (i = .areturn ∧ t.isReference = true ∧ w.isRef = true))
    (hd : decode c.code pc = .ok (i, 1)) (hK : cells ≤ K) (hN : slots ≤ N) (hQ : Q (some w) T.heap locs) :
    own_G p.tables e below (fun o U' => ∃ v L, o = .returned v ∧ Q v U'.heap L ∧ FrameEnd s o U' L K N) (T.setTop (mkF m pc Ls (w :: rest))) := by
  obtain ⟨fs, hr, hrun, hended, hW, hsame⟩ := X.leave (v := some w) (fun h => by rw [hret] at h; cases h) hlk
  exact ⟨_, _, retOut X hx hret hn hi hd hr, hrun, hended, _, _, rfl, hQ, ⟨_, rfl⟩, hW, hsame.mono hK hN⟩
theorem own_retI (X : Stand p l e R s m args below meth c T locs cells slots) (hx : p.tables.exec = Jvm.exec) (hlk : meth.locks = false) {K N pc : Nat} {Ls : Array Slot} {z : Int32} {rest : List Value} {Q : Option Value → Heap → List Loc → Prop} (hret : meth.sig.returnType = some .int)
    (hd : decode c.code pc = .ok (.ireturn, 1)) (hK : cells ≤ K) (hN : slots ≤ N) (hQ : Q (some (.int z)) T.heap locs) :
    own_G p.tables e below (fun o U' => ∃ v L, o = .returned v ∧ Q v U'.heap L ∧ FrameEnd s o U' L K N) (T.setTop (mkF m pc Ls (.int z :: rest))) :=
  own_ret X hx hlk hret rfl (Or.inl ⟨rfl, Or.inl rfl, z, rfl⟩) hd hK hN hQ
theorem own_retZ (X : Stand p l e R s m args below meth c T locs cells slots) (hx : p.tables.exec = Jvm.exec) (hlk : meth.locks = false) {K N pc : Nat} {Ls : Array Slot} {z : Int32} {rest : List Value} {Q : Option Value → Heap → List Loc → Prop} (hret : meth.sig.returnType = some .boolean)
    (hd : decode c.code pc = .ok (.ireturn, 1)) (hz : z = 0 ∨ z = 1) (hK : cells ≤ K) (hN : slots ≤ N) (hQ : Q (some (.int z)) T.heap locs) :
    own_G p.tables e below (fun o U' => ∃ v L, o = .returned v ∧ Q v U'.heap L ∧ FrameEnd s o U' L K N) (T.setTop (mkF m pc Ls (.int z :: rest))) :=
  own_ret X hx hlk hret (by rcases hz with rfl | rfl <;> rfl) (Or.inl ⟨rfl, Or.inr (Or.inl rfl), z, rfl⟩) hd hK hN hQ
theorem own_retL (X : Stand p l e R s m args below meth c T locs cells slots) (hx : p.tables.exec = Jvm.exec) (hlk : meth.locks = false) {K N pc : Nat} {Ls : Array Slot} {z : Int64} {rest : List Value} {Q : Option Value → Heap → List Loc → Prop} (hret : meth.sig.returnType = some .long)
    (hd : decode c.code pc = .ok (.lreturn, 1)) (hK : cells ≤ K) (hN : slots ≤ N) (hQ : Q (some (.long z)) T.heap locs) :
    own_G p.tables e below (fun o U' => ∃ v L, o = .returned v ∧ Q v U'.heap L ∧ FrameEnd s o U' L K N) (T.setTop (mkF m pc Ls (.long z :: rest))) :=
  own_ret X hx hlk hret rfl (Or.inr (Or.inl ⟨rfl, rfl, z, rfl⟩)) hd hK hN hQ
theorem own_retA (X : Stand p l e R s m args below meth c T locs cells slots) (hx : p.tables.exec = Jvm.exec) (hlk : meth.locks = false) {K N pc : Nat} {Ls : Array Slot} {w : Value} {t : FieldType} {rest : List Value} {Q : Option Value → Heap → List Loc → Prop} (hret : meth.sig.returnType = some t) (ht : t.isReference = true) (hw : w.isRef = true)
    (hd : decode c.code pc = .ok (.areturn, 1)) (hK : cells ≤ K) (hN : slots ≤ N) (hQ : Q (some w) T.heap locs) :
    own_G p.tables e below (fun o U' => ∃ v L, o = .returned v ∧ Q v U'.heap L ∧ FrameEnd s o U' L K N) (T.setTop (mkF m pc Ls (w :: rest))) :=
  own_ret X hx hlk hret (by cases t <;> first | (cases ht; done) | (rcases ref_cases hw with rfl | ⟨z, rfl⟩ <;> rfl)) (Or.inr (Or.inr (Or.inr (Or.inr ⟨rfl, ht, hw⟩)))) hd hK hN hQ
theorem own_retV (X : Stand p l e R s m args below meth c T locs cells slots) (hx : p.tables.exec = Jvm.exec) (hlk : meth.locks = false) {K N pc : Nat} {Ls : Array Slot} {Q : Option Value → Heap → List Loc → Prop} (hret : meth.sig.returnType = none)
    (hd : decode c.code pc = .ok (.return_, 1)) (hK : cells ≤ K) (hN : slots ≤ N) (hQ : Q none T.heap locs) :
    own_G p.tables e below (fun o U' => ∃ v L, o = .returned v ∧ Q v U'.heap L ∧ FrameEnd s o U' L K N) (T.setTop (mkF m pc Ls [])) := by
  obtain ⟨fs, hr, hrun, hended, hW, hsame⟩ := X.leave (v := none) (fun _ => rfl) hlk
  exact ⟨_, _, X.returnOut hx hret hd hr, hrun, hended, _, _, rfl, hQ, ⟨_, rfl⟩, hW, hsame.mono hK hN⟩
theorem own_acmpVE (X : Stand p l e R s m args below meth c T locs cells slots) (hx : p.tables.exec = Jvm.exec) {cd : ACond} {x y : Value} (h1 : x.isRef = true) (h2 : y.isRef = true) {o : Int} {pc pc' : Nat} {Ls : Array Slot} {rest : List Value} (hd : decode c.code pc = .ok (.if_acmp cd o, 3)) (ho : 0 ≤ (pc : Int) + o) (hp : pc' = if acV cd true = true then ((pc : Int) + o).toNat else pc + 3)
    (hc : x = y) (k : own_G p.tables e below F (T.setTop (mkF m pc' Ls rest))) : own_G p.tables e below F (T.setTop (mkF m pc Ls (y :: x :: rest))) :=
  own_go (fun _ q => RoadKit.acmp X hx rfl h1 h2 (pc0 := pc) (pc' := pc') (same := true) rfl hd rfl (by simp [hc]) ho hp q) k
theorem own_acmpVD (X : Stand p l e R s m args below meth c T locs cells slots) (hx : p.tables.exec = Jvm.exec) {cd : ACond} {x y : Value} (h1 : x.isRef = true) (h2 : y.isRef = true) {o : Int} {pc pc' : Nat} {Ls : Array Slot} {rest : List Value} (hd : decode c.code pc = .ok (.if_acmp cd o, 3)) (ho : 0 ≤ (pc : Int) + o) (hp : pc' = if acV cd false = true then ((pc : Int) + o).toNat else pc + 3)
    (hc : ¬ x = y) (k : own_G p.tables e below F (T.setTop (mkF m pc' Ls rest))) : own_G p.tables e below F (T.setTop (mkF m pc Ls (y :: x :: rest))) :=
  own_go (fun _ q => RoadKit.acmp X hx rfl h1 h2 (pc0 := pc) (pc' := pc') (same := false) rfl hd rfl (by simp [hc]) ho hp q) k
theorem own_acmpAE (X : Stand p l e R s m args below meth c T locs cells slots) (hx : p.tables.exec = Jvm.exec) {cd : ACond} {x y : Addr} {o : Int} {pc pc' : Nat} {Ls : Array Slot} {rest : List Value} (hd : decode c.code pc = .ok (.if_acmp cd o, 3)) (ho : 0 ≤ (pc : Int) + o) (hp : pc' = if acV cd true = true then ((pc : Int) + o).toNat else pc + 3)
    (hc : x = y) (k : own_G p.tables e below F (T.setTop (mkF m pc' Ls rest))) : own_G p.tables e below F (T.setTop (mkF m pc Ls (.ref y :: .ref x :: rest))) :=
  own_acmpVE X hx rfl rfl hd ho hp (by rw [hc]) k
theorem own_acmpAD (X : Stand p l e R s m args below meth c T locs cells slots) (hx : p.tables.exec = Jvm.exec) {cd : ACond} {x y : Addr} {o : Int} {pc pc' : Nat} {Ls : Array Slot} {rest : List Value} (hd : decode c.code pc = .ok (.if_acmp cd o, 3)) (ho : 0 ≤ (pc : Int) + o) (hp : pc' = if acV cd false = true then ((pc : Int) + o).toNat else pc + 3)
    (hc : ¬ x = y) (k : own_G p.tables e below F (T.setTop (mkF m pc' Ls rest))) : own_G p.tables e below F (T.setTop (mkF m pc Ls (.ref y :: .ref x :: rest))) :=
  own_acmpVD X hx rfl rfl hd ho hp (fun q => hc (by cases q; rfl)) k
end Own
theorem own_cat1 {v : Value} (h : v.isRef = true) : v.category = 1 := by cases v <;> first | (cases h; done) | rfl
theorem own_sta_keep {Z : State} {h h' : Heap} {C n d : String} {v : Value} {ws : List Addr} (F : Sta Z h C n d v) (K : Keep h h' ws) (q : ∀ x ∈ ws, ∀ c : Cell, h[x]? = some c → c.vm.isStatics = false) : Sta Z h' C n d v := by
  obtain ⟨cf, i, k, f, st, cell, h1, h2, h3, h4, h5, h6, h7⟩ := F
  exact ⟨cf, i, k, f, st, cell, h1, h2, h3, h4, K.2.1 _ _ h5 (fun z => by rw [q _ z _ h5] at h6; cases h6), h6, h7⟩
theorem own_eqint {t : Term} {n : Int32} {args : Array Value} {s : State} (h : (Jvm.Cond.eq t (Term.int n)).value args s none s [] = some true) : t.eval args s none [] s = some (.int n) := by
  have hb : (Term.int n).eval args s none [] s = some (.int n) := Term.int_eval n
  simp only [Jvm.Cond.value, hb] at h
  cases ht : t.eval args s none [] s with
  | none => simp [ht] at h
  | some v => cases v <;> simp [ht] at h ⊢; exact h
abbrev own_y1 : MethodName := ⟨"java/lang/Record", "<init>", "()V"⟩
abbrev own_y2 : MethodName := ⟨"java/lang/Math", "max", "(II)I"⟩
abbrev own_y3 : MethodName := ⟨"com/example/pagemason/pagemason/buffer/ChunkMetric", "<init>", "(III)V"⟩
abbrev own_y4 : MethodName := ⟨"com/example/pagemason/pagemason/buffer/ChunkMetric", "usage", "()I"⟩
theorem own_pd1 : parseMethodDescriptor "()V" = some ⟨[], none⟩ := by decide +kernel
theorem own_pd2 : parseMethodDescriptor "(II)I" = some ⟨[.int, .int], (some .int)⟩ := by decide +kernel
theorem own_pd3 : parseMethodDescriptor "(III)V" = some ⟨[.int, .int, .int], none⟩ := by decide +kernel
theorem own_pd4 : parseMethodDescriptor "()I" = some ⟨[], (some .int)⟩ := by decide +kernel

def own_min (x y : Int32) : Int32 := if y < x then y else x
def own_max (x y : Int32) : Int32 := if x < y then y else x
theorem own_min_spec (x y : Int32) : (own_min x y).toInt = min x.toInt y.toInt := by
  unfold own_min
  split
  · rename_i h; rw [Int32.lt_iff_toInt_lt] at h; omega
  · rename_i h; rw [Int32.lt_iff_toInt_lt] at h; omega
theorem own_max_spec (x y : Int32) : (own_max x y).toInt = max x.toInt y.toInt := by
  unfold own_max
  split
  · rename_i h; rw [Int32.lt_iff_toInt_lt] at h; omega
  · rename_i h; rw [Int32.lt_iff_toInt_lt] at h; omega

def own_usage (qs qf : Int32) : Int32 := if qf = 0 then 100 else if ((((qf.toInt64) * (100 : Int64)) / (qs.toInt64)).toInt32) = 0 then 99 else (100 : Int32) - ((((qf.toInt64) * (100 : Int64)) / (qs.toInt64)).toInt32)
theorem own_z8 {p0 z8 : Int32} (h : z8 = (own_max (1 : Int32) (p0 &&& (2147483647 : Int32)))) : 1 ≤ z8.toInt ∧ z8.toInt ≤ 2147483647 := by
  have a := own_max_spec (1 : Int32) (p0 &&& (2147483647 : Int32))
  rw [← h] at a
  have b := rng32 z8
  have e1 : (1 : Int32).toInt = 1 := by decide
  omega
theorem own_nz8 {p0 z8 : Int32} (h : z8 = (own_max (1 : Int32) (p0 &&& (2147483647 : Int32)))) : z8.toInt64 ≠ 0 := fun q => by
  have a := own_z8 h
  have b := c_i2l z8
  rw [q] at b
  have e1 : (0 : Int64).toInt = 0 := by decide
  omega
theorem own_nz21 {p0 z8 : Int32} (h : z8 = (own_max (1 : Int32) (p0 &&& (2147483647 : Int32)))) : (z8.toInt64) + (1 : Int64) ≠ 0 := fun q => by
  have a := own_z8 h
  have b := c_i2l z8
  have d := c_ladd z8.toInt64 (1 : Int64)
  rw [q] at d
  have e1 : (0 : Int64).toInt = 0 := by decide
  have e2 : (1 : Int64).toInt = 1 := by decide
  omega
theorem own_f0 {p0 z8 : Int32} (h : z8 = (own_max (1 : Int32) (p0 &&& (2147483647 : Int32)))) : ¬ (0 : Int32) < 0 ∧ ¬ z8 < (0 : Int32) := by
  have a := own_z8 h
  have e1 : (0 : Int32).toInt = 0 := by decide
  rw [Int32.lt_iff_toInt_lt, Int32.lt_iff_toInt_lt]
  omega
theorem own_f1 {p0 z8 : Int32} (h : z8 = (own_max (1 : Int32) (p0 &&& (2147483647 : Int32)))) : ¬ z8 < 0 ∧ ¬ z8 < z8 := by
  have a := own_z8 h
  have e1 : (0 : Int32).toInt = 0 := by decide
  rw [Int32.lt_iff_toInt_lt, Int32.lt_iff_toInt_lt]
  omega
theorem own_rr {p0 p1 z8 z23 : Int32} (h : z8 = (own_max (1 : Int32) (p0 &&& (2147483647 : Int32))))
    (h23 : z23 = ((((p1.toInt64) &&& (2147483647 : Int64)) - (((p1.toInt64) &&& (2147483647 : Int64)) / ((z8.toInt64) + (1 : Int64))) * ((z8.toInt64) + (1 : Int64))).toInt32)) : 0 ≤ z23.toInt ∧ z23.toInt ≤ z8.toInt := by
  have a := own_z8 h
  have b := c_i2l z8
  have d := c_ladd z8.toInt64 (1 : Int64)
  have d2 := rng64 (z8.toInt64 + (1 : Int64))
  have e2 : (1 : Int64).toInt = 1 := by decide
  have m1 := c_maskL p1.toInt64 (2147483647 : Int64) 31 (by decide) (by decide)
  have r := (c_lrem ((p1.toInt64) &&& (2147483647 : Int64)) ((z8.toInt64) + (1 : Int64)) _ rfl).1 (by omega)
  have b1 : ((z8.toInt64) + (1 : Int64)).toInt = z8.toInt + 1 := by omega
  have r1 := Int.emod_nonneg ((p1.toInt64) &&& (2147483647 : Int64)).toInt (b := ((z8.toInt64) + (1 : Int64)).toInt) (by omega)
  have r2 := Int.emod_lt_of_pos ((p1.toInt64) &&& (2147483647 : Int64)).toInt (b := ((z8.toInt64) + (1 : Int64)).toInt) (by omega)
  rw [← r] at r1 r2
  have k := c_l2i (((p1.toInt64) &&& (2147483647 : Int64)) - (((p1.toInt64) &&& (2147483647 : Int64)) / ((z8.toInt64) + (1 : Int64))) * ((z8.toInt64) + (1 : Int64)))
  rw [← h23] at k
  have g := rng32 z23
  omega
theorem own_f2 {p0 p1 z8 z23 : Int32} (h : z8 = (own_max (1 : Int32) (p0 &&& (2147483647 : Int32))))
    (h23 : z23 = ((((p1.toInt64) &&& (2147483647 : Int64)) - (((p1.toInt64) &&& (2147483647 : Int64)) / ((z8.toInt64) + (1 : Int64))) * ((z8.toInt64) + (1 : Int64))).toInt32)) : ¬ z23 < 0 ∧ ¬ z8 < z23 := by
  have a := own_rr h h23
  have e1 : (0 : Int32).toInt = 0 := by decide
  rw [Int32.lt_iff_toInt_lt, Int32.lt_iff_toInt_lt]
  omega
theorem own_f3 {p0 p1 z8 z23 z72 : Int32} (h : z8 = (own_max (1 : Int32) (p0 &&& (2147483647 : Int32))))
    (h23 : z23 = ((((p1.toInt64) &&& (2147483647 : Int64)) - (((p1.toInt64) &&& (2147483647 : Int64)) / ((z8.toInt64) + (1 : Int64))) * ((z8.toInt64) + (1 : Int64))).toInt32)) (h72 : z72 = z8 - z23) : ¬ z72 < 0 ∧ ¬ z8 < z72 := by
  have a := own_rr h h23
  have a2 := own_z8 h
  have e1 : (0 : Int32).toInt = 0 := by decide
  have k := c_isub z8 z23
  rw [← h72] at k
  have g := rng32 z72
  rw [Int32.lt_iff_toInt_lt, Int32.lt_iff_toInt_lt]
  omega
theorem own_u0 {z8 fr z93 : Int32} (h : z93 = own_usage z8 fr) (q : fr = 0) : z93 = (100 : Int32) := by
  rw [h, own_usage, if_pos q]
theorem own_spec {p0 z8 fr z93 : Int32} (h8 : z8 = (own_max (1 : Int32) (p0 &&& (2147483647 : Int32)))) (hf : ¬ fr < 0 ∧ ¬ z8 < fr) (q : ¬ fr = 0) (h : z93 = own_usage z8 fr) :
    ∃ k P : Int, P = k * z8.toInt ∧ P ≤ fr.toInt * 100 ∧ fr.toInt * 100 < P + z8.toInt ∧ 0 ≤ k ∧ k ≤ 100 ∧ ((k = 0 ∧ z93.toInt = 99) ∨ (k ≠ 0 ∧ z93.toInt = 100 - k)) := by
  have a := own_z8 h8
  rw [Int32.lt_iff_toInt_lt, Int32.lt_iff_toInt_lt] at hf
  have e0 : (0 : Int32).toInt = 0 := by decide
  have e1 : (100 : Int64).toInt = 100 := by decide
  have e2 : (100 : Int32).toInt = 100 := by decide
  have e3 : (99 : Int32).toInt = 99 := by decide
  have q' : ¬ fr.toInt = 0 := fun z => q (Int32.toInt_inj.mp (z.trans e0.symm))
  have b1 := c_i2l fr
  have b2 := c_i2l z8
  have b3 := c_lmul fr.toInt64 (100 : Int64)
  rw [b1, e1] at b3
  have b4 := rng64 (fr.toInt64 * (100 : Int64))
  have b5 : (fr.toInt64 * (100 : Int64)).toInt = fr.toInt * 100 := by omega
  have hne : z8.toInt64 ≠ -1 := fun z => by
    rw [z] at b2
    have : (-1 : Int64).toInt = -1 := by decide
    omega
  have dv := (c_ldiv (fr.toInt64 * (100 : Int64)) z8.toInt64 z8.toInt b2 hne).1 (by omega)
  rw [b5] at dv
  refine ⟨fr.toInt * 100 / z8.toInt, fr.toInt * 100 / z8.toInt * z8.toInt, rfl, ?_⟩
  have d1 := Int.ediv_mul_le (fr.toInt * 100) (b := z8.toInt) (by omega)
  have d2 := Int.lt_ediv_add_one_mul_self (fr.toInt * 100) (b := z8.toInt) (by omega)
  rw [Int.add_mul] at d2
  have d3 : 0 ≤ fr.toInt * 100 / z8.toInt := Int.ediv_nonneg (by omega) (by omega)
  have d4 : fr.toInt * 100 / z8.toInt ≤ 100 := by
    have := Int.ediv_le_of_le_mul (a := fr.toInt * 100) (b := 100) (c := z8.toInt) (by omega) (by omega)
    omega
  have w := c_l2i (fr.toInt64 * (100 : Int64) / z8.toInt64)
  have w2 := rng32 (fr.toInt64 * (100 : Int64) / z8.toInt64).toInt32
  have w3 : ((fr.toInt64 * (100 : Int64) / z8.toInt64).toInt32).toInt = fr.toInt * 100 / z8.toInt := by omega
  generalize fr.toInt * 100 / z8.toInt * z8.toInt = P at *
  rw [own_usage, if_neg q] at h
  refine ⟨by omega, by omega, d3, d4, ?_⟩
  by_cases t : ((((fr.toInt64) * (100 : Int64)) / (z8.toInt64)).toInt32) = 0
  · rw [if_pos t] at h
    rw [t] at w3
    left
    exact ⟨by omega, by rw [h]; decide⟩
  · rw [if_neg t] at h
    right
    have t' : ¬ ((((fr.toInt64) * (100 : Int64)) / (z8.toInt64)).toInt32).toInt = 0 := fun z => t (Int32.toInt_inj.mp (z.trans e0.symm))
    have s := c_isub (100 : Int32) ((((fr.toInt64) * (100 : Int64)) / (z8.toInt64)).toInt32)
    rw [← h] at s
    have g := rng32 z93
    omega
theorem own_ur {p0 z8 fr z93 : Int32} (h8 : z8 = (own_max (1 : Int32) (p0 &&& (2147483647 : Int32)))) (hf : ¬ fr < 0 ∧ ¬ z8 < fr) (q : ¬ fr = 0) (h : z93 = own_usage z8 fr) : ¬ z93 < 0 ∧ ¬ (99 : Int32) < z93 := by
  obtain ⟨k, P, -, -, -, h4, h5, h6⟩ := own_spec h8 hf q h
  have e0 : (0 : Int32).toInt = 0 := by decide
  have e3 : (99 : Int32).toInt = 99 := by decide
  rw [Int32.lt_iff_toInt_lt, Int32.lt_iff_toInt_lt]
  omega
theorem own_u99 {p0 z8 fr z93 : Int32} {z98 z103 : Int64} (h8 : z8 = (own_max (1 : Int32) (p0 &&& (2147483647 : Int32)))) (hf : ¬ fr < 0 ∧ ¬ z8 < fr) (q : ¬ fr = 0) (h : z93 = own_usage z8 fr) (h99 : z93 = (99 : Int32)) (h98 : z98 = (z8.toInt64)) (h103 : z103 = (fr.toInt64)) : (z103 * (100 : Int64)) < ((2 : Int64) * z98) := by
  obtain ⟨k, P, h1, h2, h3, h4, h5, h6⟩ := own_spec h8 hf q h
  have e3 : (99 : Int32).toInt = 99 := by decide
  have e1 : (100 : Int64).toInt = 100 := by decide
  have e2 : (2 : Int64).toInt = 2 := by decide
  have a := own_z8 h8
  rw [Int32.lt_iff_toInt_lt, Int32.lt_iff_toInt_lt] at hf
  have e0 : (0 : Int32).toInt = 0 := by decide
  have r0 := rng32 fr
  have b1 := c_i2l fr
  have b2 := c_i2l z8
  rw [← h103] at b1
  rw [← h98] at b2
  have m1 := c_lmul z103 (100 : Int64)
  have m2 := c_lmul (2 : Int64) z98
  rw [b1, e1] at m1
  rw [b2, e2] at m2
  have r1 := rng64 (z103 * (100 : Int64))
  have r2 := rng64 ((2 : Int64) * z98)
  have n1 : (z103 * (100 : Int64)).toInt = fr.toInt * 100 := by omega
  have n2 : ((2 : Int64) * z98).toInt = 2 * z8.toInt := by omega
  rw [h99, e3] at h6
  clear m1 m2 r1 r2 b1 b2
  rw [Int64.lt_iff_toInt_lt]
  rcases h6 with ⟨hk, -⟩ | ⟨-, hk⟩
  · subst hk; omega
  · obtain rfl : k = 1 := by omega
    omega
theorem own_uf {p0 z8 fr z93 : Int32} {z98 z103 z173 : Int64} (h8 : z8 = (own_max (1 : Int32) (p0 &&& (2147483647 : Int32)))) (hf : ¬ fr < 0 ∧ ¬ z8 < fr) (q : ¬ fr = 0) (h : z93 = own_usage z8 fr) (h99 : ¬ z93 = (99 : Int32)) (h98 : z98 = (z8.toInt64)) (h103 : z103 = (fr.toInt64)) (h173 : z173 = ((100 : Int64) - (z93.toInt64))) : ¬ (z103 * (100 : Int64)) < (z173 * z98) ∧ (z103 * (100 : Int64)) < ((z173 + (1 : Int64)) * z98) := by
  obtain ⟨k, P, h1, h2, h3, h4, h5, h6⟩ := own_spec h8 hf q h
  have e3 : (99 : Int32).toInt = 99 := by decide
  have e1 : (100 : Int64).toInt = 100 := by decide
  have e2 : (1 : Int64).toInt = 1 := by decide
  have h99' : ¬ z93.toInt = 99 := fun z => h99 (Int32.toInt_inj.mp (z.trans e3.symm))
  have hk : z93.toInt = 100 - k := by omega
  have a := own_z8 h8
  have r0 := rng32 fr
  have b1 := c_i2l fr
  have b2 := c_i2l z8
  have b3 := c_i2l z93
  rw [← h103] at b1
  rw [← h98] at b2
  have s1 := c_lsub (100 : Int64) z93.toInt64
  rw [← h173, b3, e1, hk] at s1
  have r3 := rng64 z173
  have s2 : z173.toInt = k := by omega
  have s3 := c_ladd z173 (1 : Int64)
  rw [s2, e2] at s3
  have r4 := rng64 (z173 + (1 : Int64))
  have s4 : (z173 + (1 : Int64)).toInt = k + 1 := by omega
  have m1 := c_lmul z103 (100 : Int64)
  have m2 := c_lmul z173 z98
  have m3 := c_lmul (z173 + (1 : Int64)) z98
  rw [b1, e1] at m1
  rw [b2, s2, ← h1] at m2
  rw [b2, s4, Int.add_mul, ← h1] at m3
  have r1 := rng64 (z103 * (100 : Int64))
  have r2 := rng64 (z173 * z98)
  have r5 := rng64 ((z173 + (1 : Int64)) * z98)
  rw [Int32.lt_iff_toInt_lt, Int32.lt_iff_toInt_lt] at hf
  have e0 : (0 : Int32).toInt = 0 := by decide
  have n1 : (z103 * (100 : Int64)).toInt = fr.toInt * 100 := by clear m2 m3 r2 r5 s1 s3 r3 r4; omega
  have n2 : (z173 * z98).toInt = P := by clear m1 m3 r1 r5 s1 s3 r3 r4 n1; omega
  have n3 : ((z173 + (1 : Int64)) * z98).toInt = P + z8.toInt := by clear m1 m2 r1 r2 s1 s3 r3 r4 n1 n2; omega
  clear m1 m2 m3 r1 r2 r5 s1 s3 r3 r4
  rw [Int64.lt_iff_toInt_lt, Int64.lt_iff_toInt_lt]
  omega

theorem own_mmax_d0 : decode jdk_29_method_65_code 0 = .ok (.iload_n 0, 1) := by decide +kernel
theorem own_mmax_d1 : decode jdk_29_method_65_code 1 = .ok (.iload_n 1, 1) := by decide +kernel
theorem own_mmax_d2 : decode jdk_29_method_65_code 2 = .ok (.if_icmp .lt 7, 3) := by decide +kernel
theorem own_mmax_d5 : decode jdk_29_method_65_code 5 = .ok (.iload_n 0, 1) := by decide +kernel
theorem own_mmax_d6 : decode jdk_29_method_65_code 6 = .ok (.goto 4, 3) := by decide +kernel
theorem own_mmax_d9 : decode jdk_29_method_65_code 9 = .ok (.iload_n 1, 1) := by decide +kernel
theorem own_mmax_d10 : decode jdk_29_method_65_code 10 = .ok (.ireturn, 1) := by decide +kernel
theorem own_mmax_ef (m : MethodId) (pa : Int32) (pb : Int32) : entryFrame m #[(.int pa), (.int pb)] 2 = mkF m 0 #[iv pa, iv pb] [] := by first | (simp [entryFrame, mkF, argsToLocals, Value.category]; done) | rfl
def own_mmax_Q (Z : State) (pa : Int32) (pb : Int32) (h0 : Heap) (n0 : Nat) (v : Option Value) (h : Heap) (L : List Loc) : Prop := v = some (.int (own_max pa pb)) ∧ Fr n0 L ∧ h = h0
set_option maxRecDepth 65536 in
set_option maxHeartbeats 40000000 in
theorem own_mmax (l : Launch) (Z : State) (a0 : Array Value) (hw : ∀ d ∈ tables_1, d.before a0 Z = true) (ws : List Jvm.Cond) (pa : Int32) (pb : Int32) (h0 : Heap) (n0 : Nat) :
    MetFree l own_y2 (head1 (Jvm.Cond.code own_y2 jdk_29_method_65_code 2 (some .int) :: ws) ({ frames := 0, cells := 0, slots := 0, locals := 0 } : Room)) (fun a U => a = #[(.int pa), (.int pb)] ∧ Z.Warmed39 U.vm ∧ U.heap = h0) (fun _ _ _ _ _ => True) (fun _ U o U' => ∃ v L, o = .returned v ∧ (own_mmax_Q Z pa pb h0 n0) v U'.heap L ∧ FrameEnd U o U' L ({ frames := 0, cells := 0, slots := 0, locals := 0 } : Room).cells ({ frames := 0, cells := 0, slots := 0, locals := 0 } : Room).slots) := by
  refine MetFree.of_bodySF (Jvm.Free.JP.mathPlain rfl (by decide +kernel)) hisR ?_
  intro p e s m args below meth c s₁ Bd hml0 hP hK
  obtain ⟨rfl, hZ, hh⟩ := hP
  have hx := Bd.exec
  have hby := Bd.bytes
  have hml : c.maxLocals = 2 := hml0
  have hown : s.vm.findClass "java/lang/Math" = some m.cls := findClass_of_methodNamed Bd.named
  have hnm := (name_of_methodNamed Bd.named Bd.method).1
  have hlk : meth.locks = false := Bd.notSynchronized
  have X0 : Stand p l e ({ frames := 0, cells := 0, slots := 0, locals := 0 } : Room) s m #[(.int pa), (.int pb)] below meth c s₁ [] 0 0 := Stand.of_body Bd
  have e0 : s₁.heap = h0 := by rw [← hh, Bd.state]; rfl
  have N0 := Fr.nil n0
  show own_G p.tables e below (fun o U' => ∃ v L, o = .returned v ∧ (own_mmax_Q Z pa pb h0 n0) v U'.heap L ∧ FrameEnd s o U' L ({ frames := 0, cells := 0, slots := 0, locals := 0 } : Room).cells ({ frames := 0, cells := 0, slots := 0, locals := 0 } : Room).slots) (s₁.setTop (entryFrame m #[(.int pa), (.int pb)] 2))
  refine own_go (B := s₁.setTop (mkF m 0 #[iv pa, iv pb] [])) (fun t k => castTop (own_mmax_ef m pa pb) k) ?_
  refine own_go (B := (s₁.setTop (mkF m 1 #[iv pa, iv pb] [(.int pa)]))) (fun t k => XS.iloadN X0.here hx rfl (hb hby own_mmax_d0) rfl k) ?_
  refine own_go (B := (s₁.setTop (mkF m 2 #[iv pa, iv pb] [(.int pb), (.int pa)]))) (fun t k => XS.iloadN X0.here hx rfl (hb hby own_mmax_d1) rfl k) ?_
  refine own_icmp X0 hx (hb hby own_mmax_d2) (pc' := 9) (pn := 5) (by decide) (by decide) rfl (fun (hc2 : pa < pb) => ?_) (fun (hc2 : ¬ pa < pb) => ?_)
  · refine own_go (B := (s₁.setTop (mkF m 10 #[iv pa, iv pb] [(.int pb)]))) (fun t k => XS.iloadN X0.here hx rfl (hb hby own_mmax_d9) rfl k) ?_
    exact own_retI X0 hx hlk Bd.returns (hb hby own_mmax_d10) (own_b rfl) (own_b rfl) (Q := (own_mmax_Q Z pa pb h0 n0)) ⟨by rw [own_max, if_pos hc2], N0, e0⟩
  · refine own_go (B := (s₁.setTop (mkF m 6 #[iv pa, iv pb] [(.int pa)]))) (fun t k => XS.iloadN X0.here hx rfl (hb hby own_mmax_d5) rfl k) ?_
    refine own_go (B := (s₁.setTop (mkF m 10 #[iv pa, iv pb] [(.int pa)]))) (fun t k => XS.goto X0.here hx rfl (pc0 := 6) (pc' := 10) rfl (hb hby own_mmax_d6) (by decide) (by decide) k) ?_
    exact own_retI X0 hx hlk Bd.returns (hb hby own_mmax_d10) (own_b rfl) (own_b rfl) (Q := (own_mmax_Q Z pa pb h0 n0)) ⟨by rw [own_max, if_neg hc2], N0, e0⟩

theorem own_rec_d0 : decode jdk_30_method_1_code 0 = .ok (.aload_n 0, 1) := by decide +kernel
theorem own_rec_d1 : decode jdk_30_method_1_code 1 = .ok (.invokespecial 1, 3) := by decide +kernel
theorem own_rec_d4 : decode jdk_30_method_1_code 4 = .ok (.return_, 1) := by decide +kernel
theorem own_rec_pn : plainName "java/lang/Record" = true := by first | (simp [plainName, overriddenIn]; done) | decide +kernel
theorem own_rec_ef (m : MethodId) (ra : Addr) : entryFrame m #[(.ref ra)] 1 = mkF m 0 #[rv ra] [] := by first | (simp [entryFrame, mkF, argsToLocals, Value.category]; done) | rfl
def own_rec_Q (Z : State) (ra : Addr) (h0 : Heap) (n0 : Nat) (v : Option Value) (h : Heap) (L : List Loc) : Prop := v = none ∧ Fr n0 L ∧ h = h0
set_option maxRecDepth 65536 in
set_option maxHeartbeats 40000000 in
theorem own_rec (l : Launch) (Z : State) (a0 : Array Value) (hw : ∀ d ∈ tables_1, d.before a0 Z = true) (ws : List Jvm.Cond) (ra : Addr) (h0 : Heap) (n0 : Nat) :
    MetFree l own_y1 (head1 (Jvm.Cond.code own_y1 jdk_30_method_1_code 1 none :: ws) ({ frames := 1, cells := 0, slots := 0, locals := 12 } : Room)) (fun a U => a = #[(.ref ra)] ∧ Z.Warmed39 U.vm ∧ U.heap = h0) (fun _ _ _ _ _ => True) (fun _ U o U' => ∃ v L, o = .returned v ∧ (own_rec_Q Z ra h0 n0) v U'.heap L ∧ FrameEnd U o U' L ({ frames := 1, cells := 0, slots := 0, locals := 12 } : Room).cells ({ frames := 1, cells := 0, slots := 0, locals := 12 } : Room).slots) := by
  refine MetFree.of_bodySF (plainFor_of_name own_rec_pn) hisR ?_
  intro p e s m args below meth c s₁ Bd hml0 hP hK
  obtain ⟨rfl, hZ, hh⟩ := hP
  have hx := Bd.exec
  have hby := Bd.bytes
  have hml : c.maxLocals = 1 := hml0
  have hown : s.vm.findClass "java/lang/Record" = some m.cls := findClass_of_methodNamed Bd.named
  have hnm := (name_of_methodNamed Bd.named Bd.method).1
  have hlk : meth.locks = false := Bd.notSynchronized
  have X0 : Stand p l e ({ frames := 1, cells := 0, slots := 0, locals := 12 } : Room) s m #[(.ref ra)] below meth c s₁ [] 0 0 := Stand.of_body Bd
  have e0 : s₁.heap = h0 := by rw [← hh, Bd.state]; rfl
  have N0 := Fr.nil n0
  have w_17 := hw _ (List.mem_of_getElem? (l := tables_1) (i := 17) rfl)
  have w_18 := hw _ (List.mem_of_getElem? (l := tables_1) (i := 18) rfl)
  have w_19 := hw _ (List.mem_of_getElem? (l := tables_1) (i := 19) rfl)
  show own_G p.tables e below (fun o U' => ∃ v L, o = .returned v ∧ (own_rec_Q Z ra h0 n0) v U'.heap L ∧ FrameEnd s o U' L ({ frames := 1, cells := 0, slots := 0, locals := 12 } : Room).cells ({ frames := 1, cells := 0, slots := 0, locals := 12 } : Room).slots) (s₁.setTop (entryFrame m #[(.ref ra)] 1))
  refine own_go (B := s₁.setTop (mkF m 0 #[rv ra] [])) (fun t k => castTop (own_rec_ef m ra) k) ?_
  refine own_go (B := (s₁.setTop (mkF m 1 #[rv ra] [(.ref ra)]))) (fun t k => XS.aloadN X0.here hx rfl (hb hby own_rec_d0) rfl rfl k) ?_
  obtain ⟨T1, X1, e1, st1⟩ := initO X0 hx hZ hown w_17 w_18 w_19 e0 (g := (mkF m 1 #[rv ra] [(.ref ra)])) rfl (by rw [hml]; rfl) rfl (hb hby own_rec_d1) (by decide) (W := 0) (by show 2 * 0 + _ ≤ _; exact own_b rfl) (by decide)
  refine own_go (B := (T1.setTop (mkF m 4 #[rv ra] []))) st1 ?_
  exact own_retV X1 hx hlk Bd.returns (hb hby own_rec_d4) (own_b rfl) (own_b rfl) (Q := (own_rec_Q Z ra h0 n0)) ⟨rfl, N0, e1⟩

theorem own_ct_d0 : decode prog_6_method_1_code 0 = .ok (.aload_n 0, 1) := by decide +kernel
theorem own_ct_d1 : decode prog_6_method_1_code 1 = .ok (.invokespecial 1, 3) := by decide +kernel
theorem own_ct_d4 : decode prog_6_method_1_code 4 = .ok (.aload_n 0, 1) := by decide +kernel
theorem own_ct_d5 : decode prog_6_method_1_code 5 = .ok (.iload_n 1, 1) := by decide +kernel
theorem own_ct_d6 : decode prog_6_method_1_code 6 = .ok (.putfield 7, 3) := by decide +kernel
theorem own_ct_d9 : decode prog_6_method_1_code 9 = .ok (.aload_n 0, 1) := by decide +kernel
theorem own_ct_d10 : decode prog_6_method_1_code 10 = .ok (.iload_n 2, 1) := by decide +kernel
theorem own_ct_d11 : decode prog_6_method_1_code 11 = .ok (.putfield 13, 3) := by decide +kernel
theorem own_ct_d14 : decode prog_6_method_1_code 14 = .ok (.aload_n 0, 1) := by decide +kernel
theorem own_ct_d15 : decode prog_6_method_1_code 15 = .ok (.iload_n 3, 1) := by decide +kernel
theorem own_ct_d16 : decode prog_6_method_1_code 16 = .ok (.putfield 16, 3) := by decide +kernel
theorem own_ct_d19 : decode prog_6_method_1_code 19 = .ok (.return_, 1) := by decide +kernel
theorem own_ct_pn : plainName "com/example/pagemason/pagemason/buffer/ChunkMetric" = true := by first | (simp [plainName, overriddenIn]; done) | decide +kernel
theorem own_ct_ef (m : MethodId) (th : Addr) (pi : Int32) (ps : Int32) (pf : Int32) : entryFrame m #[(.ref th), (.int pi), (.int ps), (.int pf)] 4 = mkF m 0 #[rv th, iv pi, iv ps, iv pf] [] := by first | (simp [entryFrame, mkF, argsToLocals, Value.category]; done) | rfl
def own_ct_Q (Z : State) (th : Addr) (pi : Int32) (ps : Int32) (pf : Int32) (h0 : Heap) (n0 : Nat) (v : Option Value) (h : Heap) (L : List Loc) : Prop := v = none ∧ Fr n0 L ∧ Keep h0 h [th] ∧ Exa Z h th "com/example/pagemason/pagemason/buffer/ChunkMetric" ∧ Fld Z h th "com/example/pagemason/pagemason/buffer/ChunkMetric" "id" "I" (.int pi) ∧ Fld Z h th "com/example/pagemason/pagemason/buffer/ChunkMetric" "size" "I" (.int ps) ∧ Fld Z h th "com/example/pagemason/pagemason/buffer/ChunkMetric" "freeBytes" "I" (.int pf)
set_option maxRecDepth 65536 in
set_option maxHeartbeats 40000000 in
theorem own_ct (l : Launch) (Z : State) (a0 : Array Value) (hw : ∀ d ∈ tables_1, d.before a0 Z = true) (ws : List Jvm.Cond) (th : Addr) (pi : Int32) (ps : Int32) (pf : Int32) (h0 : Heap) (n0 : Nat) (Z0 : n0 ≤ h0.size) (E0 : Exa Z h0 th "com/example/pagemason/pagemason/buffer/ChunkMetric") (g0 : n0 ≤ th) (F9000 : Fld Z h0 th "com/example/pagemason/pagemason/buffer/ChunkMetric" "id" "I" (.int (0 : Int32))) (F9001 : Fld Z h0 th "com/example/pagemason/pagemason/buffer/ChunkMetric" "size" "I" (.int (0 : Int32))) (F9002 : Fld Z h0 th "com/example/pagemason/pagemason/buffer/ChunkMetric" "freeBytes" "I" (.int (0 : Int32))) :
    MetFree l own_y3 (head1 (Jvm.Cond.code own_y3 prog_6_method_1_code 4 none :: ws) ({ frames := 2, cells := 0, slots := 0, locals := 24 } : Room)) (fun a U => a = #[(.ref th), (.int pi), (.int ps), (.int pf)] ∧ Z.Warmed39 U.vm ∧ U.heap = h0) (fun _ _ _ _ _ => True) (fun _ U o U' => ∃ v L, o = .returned v ∧ (own_ct_Q Z th pi ps pf h0 n0) v U'.heap L ∧ FrameEnd U o U' L ({ frames := 2, cells := 0, slots := 0, locals := 24 } : Room).cells ({ frames := 2, cells := 0, slots := 0, locals := 24 } : Room).slots) := by
  refine MetFree.of_bodySF (plainFor_of_name own_ct_pn) hisR ?_
  intro p e s m args below meth c s₁ Bd hml0 hP hK
  obtain ⟨rfl, hZ, hh⟩ := hP
  have hx := Bd.exec
  have hby := Bd.bytes
  have hml : c.maxLocals = 4 := hml0
  have hown : s.vm.findClass "com/example/pagemason/pagemason/buffer/ChunkMetric" = some m.cls := findClass_of_methodNamed Bd.named
  have hnm := (name_of_methodNamed Bd.named Bd.method).1
  have hlk : meth.locks = false := Bd.notSynchronized
  have X0 : Stand p l e ({ frames := 2, cells := 0, slots := 0, locals := 24 } : Room) s m #[(.ref th), (.int pi), (.int ps), (.int pf)] below meth c s₁ [] 0 0 := Stand.of_body Bd
  have e0 : s₁.heap = h0 := by rw [← hh, Bd.state]; rfl
  have N0 := Fr.nil n0
  have w_7 := hw _ (List.mem_of_getElem? (l := tables_1) (i := 7) rfl)
  have w_12 := hw _ (List.mem_of_getElem? (l := tables_1) (i := 12) rfl)
  have w_13 := hw _ (List.mem_of_getElem? (l := tables_1) (i := 13) rfl)
  have w_15 := hw _ (List.mem_of_getElem? (l := tables_1) (i := 15) rfl)
  have w_16 := hw _ (List.mem_of_getElem? (l := tables_1) (i := 16) rfl)
  have w_20 := hw _ (List.mem_of_getElem? (l := tables_1) (i := 20) rfl)
  have w_21 := hw _ (List.mem_of_getElem? (l := tables_1) (i := 21) rfl)
  have w_22 := hw _ (List.mem_of_getElem? (l := tables_1) (i := 22) rfl)
  have w_23 := hw _ (List.mem_of_getElem? (l := tables_1) (i := 23) rfl)
  have w_24 := hw _ (List.mem_of_getElem? (l := tables_1) (i := 24) rfl)
  have w_25 := hw _ (List.mem_of_getElem? (l := tables_1) (i := 25) rfl)
  show own_G p.tables e below (fun o U' => ∃ v L, o = .returned v ∧ (own_ct_Q Z th pi ps pf h0 n0) v U'.heap L ∧ FrameEnd s o U' L ({ frames := 2, cells := 0, slots := 0, locals := 24 } : Room).cells ({ frames := 2, cells := 0, slots := 0, locals := 24 } : Room).slots) (s₁.setTop (entryFrame m #[(.ref th), (.int pi), (.int ps), (.int pf)] 4))
  refine own_go (B := s₁.setTop (mkF m 0 #[rv th, iv pi, iv ps, iv pf] [])) (fun t k => castTop (own_ct_ef m th pi ps pf) k) ?_
  have K0 := Keep.refl h0 [th]
  refine own_go (B := (s₁.setTop (mkF m 1 #[rv th, iv pi, iv ps, iv pf] [(.ref th)]))) (fun t k => XS.aloadN X0.here hx rfl (hb hby own_ct_d0) rfl rfl k) ?_
  obtain ⟨_, _, ⟨T1, L1, k1, n1⟩, -, X1, ⟨Lc1, hQ1, l1, y1, z1⟩, st1⟩ := X0.specialBack hx (y := own_y1) rfl hown (mvT hZ w_12) (mvT hZ w_13) (mvT hZ w_16) (by decide) (backOf (W := 0) (own_rec l Z a0 hw [] th h0 n0) hZ w_16 w_15 (by decide) (by decide)) (g := (mkF m 1 #[rv th, iv pi, iv ps, iv pf] [(.ref th)])) rfl (by rw [hml]; rfl) (Steps.refl _) (a := th) (argsL := []) (rest := []) (lenOf own_pd1 rfl) rfl (by show 2 * 0 + _ ≤ _; exact own_b rfl) (hb hby own_ct_d1) (fun _ _ => ⟨rfl, e0, (own_b rfl : 0 + 0 ≤ _), (own_b rfl : 0 + 0 ≤ _)⟩)
  dsimp only [Pt.U, Pt.locs, Pt.cells, Pt.slots] at X1 l1 y1 z1 st1 hQ1
  subst l1 y1 z1
  obtain ⟨rfl, Nq1, eq1⟩ := hQ1
  have N1 := Fr.app N0 Nq1
  have e1 : T1.heap = h0 := eq1
  refine own_tr (B := (T1.setTop (mkF m 4 #[rv th, iv pi, iv ps, iv pf] []))) st1 ?_
  refine own_go (B := (T1.setTop (mkF m 5 #[rv th, iv pi, iv ps, iv pf] [(.ref th)]))) (fun t k => XS.aloadN X1.here hx rfl (hb hby own_ct_d4) rfl rfl k) ?_
  refine own_go (B := (T1.setTop (mkF m 6 #[rv th, iv pi, iv ps, iv pf] [(.int pi), (.ref th)]))) (fun t k => XS.iloadN X1.here hx rfl (hb hby own_ct_d5) rfl k) ?_
  obtain ⟨T2, h2, X2, e2, W2, st2⟩ := putF X1 hx hZ hown (host := "") (Or.inl w_20) Via.refl e1 F9000 E0 (Or.inr ⟨w_21, rfl, hnm⟩) w_7 (ty := .int) (by decide) rfl rfl (g := (mkF m 6 #[rv th, iv pi, iv ps, iv pf] [(.int pi), (.ref th)])) rfl rfl (hb hby own_ct_d6)
  refine own_go (B := (T2.setTop (mkF m 9 #[rv th, iv pi, iv ps, iv pf] []))) st2 ?_
  have N2 := Fr.snoc X2 N1 g0
  have F3 : n0 ≤ h2.size := by rw [W2.size]; exact Z0
  have F4 := Exa.wr W2 E0
  have F5 := Keep.wr K0 W2 (Or.inl (List.mem_of_getElem? (i := 0) rfl))
  have F6 := Fld.same W2 F9000
  have F7 := Fld.other W2 F9001 (Or.inr (slot_ne (t := .int) (t' := .int) (Or.inr w_23) (Or.inr w_21) (by decide) (by decide) (by decide)))
  have F8 := Fld.other W2 F9002 (Or.inr (slot_ne (t := .int) (t' := .int) (Or.inr w_25) (Or.inr w_21) (by decide) (by decide) (by decide)))
  refine own_go (B := (T2.setTop (mkF m 10 #[rv th, iv pi, iv ps, iv pf] [(.ref th)]))) (fun t k => XS.aloadN X2.here hx rfl (hb hby own_ct_d9) rfl rfl k) ?_
  refine own_go (B := (T2.setTop (mkF m 11 #[rv th, iv pi, iv ps, iv pf] [(.int ps), (.ref th)]))) (fun t k => XS.iloadN X2.here hx rfl (hb hby own_ct_d10) rfl k) ?_
  obtain ⟨T9, h9, X9, e9, W9, st9⟩ := putF X2 hx hZ hown (host := "") (Or.inl w_22) Via.refl e2 F7 F4 (Or.inr ⟨w_23, rfl, hnm⟩) w_7 (ty := .int) (by decide) rfl rfl (g := (mkF m 11 #[rv th, iv pi, iv ps, iv pf] [(.int ps), (.ref th)])) rfl rfl (hb hby own_ct_d11)
  refine own_go (B := (T9.setTop (mkF m 14 #[rv th, iv pi, iv ps, iv pf] []))) st9 ?_
  have N9 := Fr.snoc X9 N2 g0
  have F10 : n0 ≤ h9.size := by rw [W9.size]; exact F3
  have F11 := Exa.wr W9 F4
  have F12 := Keep.wr F5 W9 (Or.inl (List.mem_of_getElem? (i := 0) rfl))
  have F13 := Fld.other W9 F6 (Or.inr (slot_ne (t := .int) (t' := .int) (Or.inr w_21) (Or.inr w_23) (by decide) (by decide) (by decide)))
  have F14 := Fld.same W9 F7
  have F15 := Fld.other W9 F8 (Or.inr (slot_ne (t := .int) (t' := .int) (Or.inr w_25) (Or.inr w_23) (by decide) (by decide) (by decide)))
  refine own_go (B := (T9.setTop (mkF m 15 #[rv th, iv pi, iv ps, iv pf] [(.ref th)]))) (fun t k => XS.aloadN X9.here hx rfl (hb hby own_ct_d14) rfl rfl k) ?_
  refine own_go (B := (T9.setTop (mkF m 16 #[rv th, iv pi, iv ps, iv pf] [(.int pf), (.ref th)]))) (fun t k => XS.iloadN X9.here hx rfl (hb hby own_ct_d15) rfl k) ?_
  obtain ⟨T16, h16, X16, e16, W16, st16⟩ := putF X9 hx hZ hown (host := "") (Or.inl w_24) Via.refl e9 F15 F11 (Or.inr ⟨w_25, rfl, hnm⟩) w_7 (ty := .int) (by decide) rfl rfl (g := (mkF m 16 #[rv th, iv pi, iv ps, iv pf] [(.int pf), (.ref th)])) rfl rfl (hb hby own_ct_d16)
  refine own_go (B := (T16.setTop (mkF m 19 #[rv th, iv pi, iv ps, iv pf] []))) st16 ?_
  have N16 := Fr.snoc X16 N9 g0
  have F17 : n0 ≤ h16.size := by rw [W16.size]; exact F10
  have F18 := Exa.wr W16 F11
  have F19 := Keep.wr F12 W16 (Or.inl (List.mem_of_getElem? (i := 0) rfl))
  have F20 := Fld.other W16 F13 (Or.inr (slot_ne (t := .int) (t' := .int) (Or.inr w_21) (Or.inr w_25) (by decide) (by decide) (by decide)))
  have F21 := Fld.other W16 F14 (Or.inr (slot_ne (t := .int) (t' := .int) (Or.inr w_23) (Or.inr w_25) (by decide) (by decide) (by decide)))
  have F22 := Fld.same W16 F15
  exact own_retV X16 hx hlk Bd.returns (hb hby own_ct_d19) (own_b rfl) (own_b rfl) (Q := (own_ct_Q Z th pi ps pf h0 n0)) (by rw [e16]; exact ⟨rfl, N16, F19, F18, F20, F21, F22⟩)

theorem own_us_d0 : decode prog_6_method_2_code 0 = .ok (.aload_n 0, 1) := by decide +kernel
theorem own_us_d1 : decode prog_6_method_2_code 1 = .ok (.getfield 16, 3) := by decide +kernel
theorem own_us_d4 : decode prog_6_method_2_code 4 = .ok (.ifCond .ne 6, 3) := by decide +kernel
theorem own_us_d7 : decode prog_6_method_2_code 7 = .ok (.bipush 100, 2) := by decide +kernel
theorem own_us_d9 : decode prog_6_method_2_code 9 = .ok (.ireturn, 1) := by decide +kernel
theorem own_us_d10 : decode prog_6_method_2_code 10 = .ok (.aload_n 0, 1) := by decide +kernel
theorem own_us_d11 : decode prog_6_method_2_code 11 = .ok (.getfield 16, 3) := by decide +kernel
theorem own_us_d14 : decode prog_6_method_2_code 14 = .ok (.i2l, 1) := by decide +kernel
theorem own_us_d15 : decode prog_6_method_2_code 15 = .ok (.ldc2_w 19, 3) := by decide +kernel
theorem own_us_d18 : decode prog_6_method_2_code 18 = .ok (.lmul, 1) := by decide +kernel
theorem own_us_d19 : decode prog_6_method_2_code 19 = .ok (.aload_n 0, 1) := by decide +kernel
theorem own_us_d20 : decode prog_6_method_2_code 20 = .ok (.getfield 13, 3) := by decide +kernel
theorem own_us_d23 : decode prog_6_method_2_code 23 = .ok (.i2l, 1) := by decide +kernel
theorem own_us_d24 : decode prog_6_method_2_code 24 = .ok (.ldiv, 1) := by decide +kernel
theorem own_us_d25 : decode prog_6_method_2_code 25 = .ok (.l2i, 1) := by decide +kernel
theorem own_us_d26 : decode prog_6_method_2_code 26 = .ok (.istore_n 1, 1) := by decide +kernel
theorem own_us_d27 : decode prog_6_method_2_code 27 = .ok (.iload_n 1, 1) := by decide +kernel
theorem own_us_d28 : decode prog_6_method_2_code 28 = .ok (.ifCond .ne 8, 3) := by decide +kernel
theorem own_us_d31 : decode prog_6_method_2_code 31 = .ok (.bipush 99, 2) := by decide +kernel
theorem own_us_d33 : decode prog_6_method_2_code 33 = .ok (.goto 7, 3) := by decide +kernel
theorem own_us_d36 : decode prog_6_method_2_code 36 = .ok (.bipush 100, 2) := by decide +kernel
theorem own_us_d38 : decode prog_6_method_2_code 38 = .ok (.iload_n 1, 1) := by decide +kernel
theorem own_us_d39 : decode prog_6_method_2_code 39 = .ok (.isub, 1) := by decide +kernel
theorem own_us_d40 : decode prog_6_method_2_code 40 = .ok (.ireturn, 1) := by decide +kernel
theorem own_us_pn : plainName "com/example/pagemason/pagemason/buffer/ChunkMetric" = true := by first | (simp [plainName, overriddenIn]; done) | decide +kernel
theorem own_us_ef (m : MethodId) (th : Addr) : entryFrame m #[(.ref th)] 2 = mkF m 0 #[rv th, .unset] [] := by first | (simp [entryFrame, mkF, argsToLocals, Value.category]; done) | rfl
def own_us_Q (Z : State) (th : Addr) (qs qf : Int32) (h0 : Heap) (n0 : Nat) (v : Option Value) (h : Heap) (L : List Loc) : Prop := v = some (.int (own_usage qs qf)) ∧ Fr n0 L ∧ h = h0
set_option maxRecDepth 65536 in
set_option maxHeartbeats 40000000 in
theorem own_us (l : Launch) (Z : State) (a0 : Array Value) (hw : ∀ d ∈ tables_1, d.before a0 Z = true) (ws : List Jvm.Cond) (th : Addr) (qs qf : Int32) (h0 : Heap) (n0 : Nat) (F1 : Fld Z h0 th "com/example/pagemason/pagemason/buffer/ChunkMetric" "size" "I" (.int qs)) (F2 : Fld Z h0 th "com/example/pagemason/pagemason/buffer/ChunkMetric" "freeBytes" "I" (.int qf)) (hnz : qs.toInt64 ≠ 0) :
    MetFree l own_y4 (head1 (Jvm.Cond.code own_y4 prog_6_method_2_code 2 (some .int) :: ws) ({ frames := 0, cells := 0, slots := 0, locals := 0 } : Room)) (fun a U => a = #[(.ref th)] ∧ Z.Warmed39 U.vm ∧ U.heap = h0) (fun _ _ _ _ _ => True) (fun _ U o U' => ∃ v L, o = .returned v ∧ (own_us_Q Z th qs qf h0 n0) v U'.heap L ∧ FrameEnd U o U' L ({ frames := 0, cells := 0, slots := 0, locals := 0 } : Room).cells ({ frames := 0, cells := 0, slots := 0, locals := 0 } : Room).slots) := by
  refine MetFree.of_bodySF (plainFor_of_name own_us_pn) hisR ?_
  intro p e s m args below meth c s₁ Bd hml0 hP hK
  obtain ⟨rfl, hZ, hh⟩ := hP
  have hx := Bd.exec
  have hby := Bd.bytes
  have hml : c.maxLocals = 2 := hml0
  have hown : s.vm.findClass "com/example/pagemason/pagemason/buffer/ChunkMetric" = some m.cls := findClass_of_methodNamed Bd.named
  have hnm := (name_of_methodNamed Bd.named Bd.method).1
  have hlk : meth.locks = false := Bd.notSynchronized
  have X0 : Stand p l e ({ frames := 0, cells := 0, slots := 0, locals := 0 } : Room) s m #[(.ref th)] below meth c s₁ [] 0 0 := Stand.of_body Bd
  have e0 : s₁.heap = h0 := by rw [← hh, Bd.state]; rfl
  have N0 := Fr.nil n0
  have w_22 := hw _ (List.mem_of_getElem? (l := tables_1) (i := 22) rfl)
  have w_24 := hw _ (List.mem_of_getElem? (l := tables_1) (i := 24) rfl)
  have w_31 := hw _ (List.mem_of_getElem? (l := tables_1) (i := 31) rfl)
  show own_G p.tables e below (fun o U' => ∃ v L, o = .returned v ∧ (own_us_Q Z th qs qf h0 n0) v U'.heap L ∧ FrameEnd s o U' L ({ frames := 0, cells := 0, slots := 0, locals := 0 } : Room).cells ({ frames := 0, cells := 0, slots := 0, locals := 0 } : Room).slots) (s₁.setTop (entryFrame m #[(.ref th)] 2))
  refine own_go (B := s₁.setTop (mkF m 0 #[rv th, .unset] [])) (fun t k => castTop (own_us_ef m th) k) ?_
  refine own_go (B := (s₁.setTop (mkF m 1 #[rv th, .unset] [(.ref th)]))) (fun t k => XS.aloadN X0.here hx rfl (hb hby own_us_d0) rfl rfl k) ?_
  obtain ⟨T1, X1, e1, st1⟩ := getF X0 hx hZ hown (host := "") (Or.inl w_24) Via.refl e0 F2 (g := (mkF m 1 #[rv th, .unset] [(.ref th)])) rfl rfl (hb hby own_us_d1)
  refine own_go (B := (T1.setTop (mkF m 4 #[rv th, .unset] [(.int qf)]))) st1 ?_
  refine own_if X1 hx (hb hby own_us_d4) (pc' := 10) (pn := 7) (by decide) (by decide) rfl (fun (hc4 : ¬ qf = (0 : Int32)) => ?_) (fun (hc4 : qf = (0 : Int32)) => ?_)
  · refine own_go (B := (T1.setTop (mkF m 11 #[rv th, .unset] [(.ref th)]))) (fun t k => XS.aloadN X1.here hx rfl (hb hby own_us_d10) rfl rfl k) ?_
    obtain ⟨T2, X2, e2, st2⟩ := getF X1 hx hZ hown (host := "") (Or.inl w_24) Via.refl e1 F2 (g := (mkF m 11 #[rv th, .unset] [(.ref th)])) rfl rfl (hb hby own_us_d11)
    refine own_go (B := (T2.setTop (mkF m 14 #[rv th, .unset] [(.int qf)]))) st2 ?_
    refine own_go (B := (T2.setTop (mkF m 15 #[rv th, .unset] [(.long (qf.toInt64))]))) (fun t k => XS.i2l X2.here hx rfl (hb hby own_us_d14) rfl k) ?_
    have lc3 := X2.ldc2Long hx hown (v := (100 : Int64)) (mvT hZ w_31) (g := (mkF m 15 #[rv th, .unset] [(.long (qf.toInt64))])) rfl (hb hby own_us_d15)
    refine own_go (B := (T2.setTop (mkF m 18 #[rv th, .unset] [(.long (100 : Int64)), (.long (qf.toInt64))]))) lc3 ?_
    refine own_go (B := (T2.setTop (mkF m 19 #[rv th, .unset] [(.long ((qf.toInt64) * (100 : Int64)))]))) (fun t k => XS.lmul X2.here hx rfl (hb hby own_us_d18) rfl k) ?_
    refine own_go (B := (T2.setTop (mkF m 20 #[rv th, .unset] [(.ref th), (.long ((qf.toInt64) * (100 : Int64)))]))) (fun t k => XS.aloadN X2.here hx rfl (hb hby own_us_d19) rfl rfl k) ?_
    obtain ⟨T4, X4, e4, st4⟩ := getF X2 hx hZ hown (host := "") (Or.inl w_22) Via.refl e2 F1 (g := (mkF m 20 #[rv th, .unset] [(.ref th), (.long ((qf.toInt64) * (100 : Int64)))])) rfl rfl (hb hby own_us_d20)
    refine own_go (B := (T4.setTop (mkF m 23 #[rv th, .unset] [(.int qs), (.long ((qf.toInt64) * (100 : Int64)))]))) st4 ?_
    refine own_go (B := (T4.setTop (mkF m 24 #[rv th, .unset] [(.long (qs.toInt64)), (.long ((qf.toInt64) * (100 : Int64)))]))) (fun t k => XS.i2l X4.here hx rfl (hb hby own_us_d23) rfl k) ?_
    refine own_go (B := (T4.setTop (mkF m 25 #[rv th, .unset] [(.long (((qf.toInt64) * (100 : Int64)) / (qs.toInt64)))]))) (fun t k => XS.ldiv X4.here hx rfl (hb hby own_us_d24) rfl hnz k) ?_
    refine own_go (B := (T4.setTop (mkF m 26 #[rv th, .unset] [(.int ((((qf.toInt64) * (100 : Int64)) / (qs.toInt64)).toInt32))]))) (fun t k => XS.l2i X4.here hx rfl (hb hby own_us_d25) rfl k) ?_
    obtain ⟨z26, hz26⟩ : ∃ z : Int32, z = ((((qf.toInt64) * (100 : Int64)) / (qs.toInt64)).toInt32) := ⟨_, rfl⟩
    rw [← hz26]
    refine own_go (B := (T4.setTop (mkF m 27 #[rv th, iv z26] []))) (fun t k => XS.istoreN X4.here hx rfl (hb hby own_us_d26) rfl (l' := #[rv th, iv z26]) rfl k) ?_
    refine own_go (B := (T4.setTop (mkF m 28 #[rv th, iv z26] [(.int z26)]))) (fun t k => XS.iloadN X4.here hx rfl (hb hby own_us_d27) rfl k) ?_
    refine own_if X4 hx (hb hby own_us_d28) (pc' := 36) (pn := 31) (by decide) (by decide) rfl (fun (hc28 : ¬ z26 = (0 : Int32)) => ?_) (fun (hc28 : z26 = (0 : Int32)) => ?_)
    · refine own_go (B := (T4.setTop (mkF m 38 #[rv th, iv z26] [(.int (100 : Int32))]))) (fun t k => XS.bipush X4.here hx rfl (hb hby own_us_d36) k) ?_
      refine own_go (B := (T4.setTop (mkF m 39 #[rv th, iv z26] [(.int z26), (.int (100 : Int32))]))) (fun t k => XS.iloadN X4.here hx rfl (hb hby own_us_d38) rfl k) ?_
      refine own_go (B := (T4.setTop (mkF m 40 #[rv th, iv z26] [(.int ((100 : Int32) - z26))]))) (fun t k => XS.isub X4.here hx rfl (hb hby own_us_d39) rfl k) ?_
      exact own_retI X4 hx hlk Bd.returns (hb hby own_us_d40) (own_b rfl) (own_b rfl) (Q := (own_us_Q Z th qs qf h0 n0)) ⟨by rw [own_usage, if_neg hc4, ← hz26, if_neg hc28], N0, e4⟩
    · refine own_go (B := (T4.setTop (mkF m 33 #[rv th, iv z26] [(.int (99 : Int32))]))) (fun t k => XS.bipush X4.here hx rfl (hb hby own_us_d31) k) ?_
      refine own_go (B := (T4.setTop (mkF m 40 #[rv th, iv z26] [(.int (99 : Int32))]))) (fun t k => XS.goto X4.here hx rfl (pc0 := 33) (pc' := 40) rfl (hb hby own_us_d33) (by decide) (by decide) k) ?_
      exact own_retI X4 hx hlk Bd.returns (hb hby own_us_d40) (own_b rfl) (own_b rfl) (Q := (own_us_Q Z th qs qf h0 n0)) ⟨by rw [own_usage, if_neg hc4, ← hz26, if_pos hc28], N0, e4⟩
  · refine own_go (B := (T1.setTop (mkF m 9 #[rv th, .unset] [(.int (100 : Int32))]))) (fun t k => XS.bipush X1.here hx rfl (hb hby own_us_d7) k) ?_
    exact own_retI X1 hx hlk Bd.returns (hb hby own_us_d9) (own_b rfl) (own_b rfl) (Q := (own_us_Q Z th qs qf h0 n0)) ⟨by rw [own_usage, if_pos hc4], N0, e1⟩

theorem own_law_pn : plainName "com/example/pagemason/pagemason/buffer/ChunkMetricUsagePinLaw" = true := by first | (simp [plainName, overriddenIn]; done) | decide +kernel
theorem own_law_ef (m : MethodId) (p0 : Int32) (p1 : Int32) (p2 : Int32) (p3 : Int32) : entryFrame m #[(.int p0), (.int p1), (.int p2), (.int p3)] maxLocals = mkF m 0 #[iv p0, iv p1, iv p2, iv p3, .unset, .unset, .unset, .unset, .unset, .unset, .unset, .unset, .unset, .unset, .unset, .unset] [] := by first | (simp [entryFrame, mkF, argsToLocals, Value.category, maxLocals]; done) | rfl
def own_law_Q (Z : State) (p0 : Int32) (p1 : Int32) (p2 : Int32) (p3 : Int32) (h0 : Heap) (n0 : Nat) (v : Option Value) (h : Heap) (L : List Loc) : Prop := v = some (.int 1) ∧ Fr n0 L
set_option maxRecDepth 65536 in
set_option maxHeartbeats 40000000 in
theorem own_law (l : Launch) (Z : State) (a0 : Array Value) (hw : ∀ d ∈ tables_1, d.before a0 Z = true) (ws : List Jvm.Cond) (p0 : Int32) (p1 : Int32) (p2 : Int32) (p3 : Int32) (h0 : Heap) (n0 : Nat) (Z0 : n0 ≤ h0.size) :
    MetFree l x (head1 (Jvm.Cond.code x code maxLocals ret :: ws) room_1) (fun a U => a = #[(.int p0), (.int p1), (.int p2), (.int p3)] ∧ Z.Warmed39 U.vm ∧ U.heap = h0) (fun _ _ _ _ _ => True) (fun _ U o U' => ∃ v L, o = .returned v ∧ (own_law_Q Z p0 p1 p2 p3 h0 n0) v U'.heap L ∧ FrameEnd U o U' L 16 128) := by
  refine MetFree.of_bodySF (plainFor_of_name own_law_pn) hisR ?_
  intro p e s m args below meth c s₁ Bd hml0 hP hK
  obtain ⟨rfl, hZ, hh⟩ := hP
  have hx := Bd.exec
  have hby := Bd.bytes
  have hml : c.maxLocals = 16 := hml0
  have hown : s.vm.findClass "com/example/pagemason/pagemason/buffer/ChunkMetricUsagePinLaw" = some m.cls := findClass_of_methodNamed Bd.named
  have hnm := (name_of_methodNamed Bd.named Bd.method).1
  have hlk : meth.locks = false := Bd.notSynchronized
  have X0 : Stand p l e room_1 s m #[(.int p0), (.int p1), (.int p2), (.int p3)] below meth c s₁ [] 0 0 := Stand.of_body Bd
  have e0 : s₁.heap = h0 := by rw [← hh, Bd.state]; rfl
  have N0 := Fr.nil n0
  have w_0 := hw _ (List.mem_of_getElem? (l := tables_1) (i := 0) rfl)
  have w_1 := hw _ (List.mem_of_getElem? (l := tables_1) (i := 1) rfl)
  have w_2 := hw _ (List.mem_of_getElem? (l := tables_1) (i := 2) rfl)
  have w_3 := hw _ (List.mem_of_getElem? (l := tables_1) (i := 3) rfl)
  have w_4 := hw _ (List.mem_of_getElem? (l := tables_1) (i := 4) rfl)
  have w_5 := hw _ (List.mem_of_getElem? (l := tables_1) (i := 5) rfl)
  have w_6 := hw _ (List.mem_of_getElem? (l := tables_1) (i := 6) rfl)
  have w_7 := hw _ (List.mem_of_getElem? (l := tables_1) (i := 7) rfl)
  have w_8 := hw _ (List.mem_of_getElem? (l := tables_1) (i := 8) rfl)
  have w_9 := hw _ (List.mem_of_getElem? (l := tables_1) (i := 9) rfl)
  have w_10 := hw _ (List.mem_of_getElem? (l := tables_1) (i := 10) rfl)
  have w_11 := hw _ (List.mem_of_getElem? (l := tables_1) (i := 11) rfl)
  have w_21 := hw _ (List.mem_of_getElem? (l := tables_1) (i := 21) rfl)
  have w_23 := hw _ (List.mem_of_getElem? (l := tables_1) (i := 23) rfl)
  have w_25 := hw _ (List.mem_of_getElem? (l := tables_1) (i := 25) rfl)
  have w_26 := hw _ (List.mem_of_getElem? (l := tables_1) (i := 26) rfl)
  have w_27 := hw _ (List.mem_of_getElem? (l := tables_1) (i := 27) rfl)
  have w_28 := hw _ (List.mem_of_getElem? (l := tables_1) (i := 28) rfl)
  have w_29 := hw _ (List.mem_of_getElem? (l := tables_1) (i := 29) rfl)
  have w_30 := hw _ (List.mem_of_getElem? (l := tables_1) (i := 30) rfl)
  have w_32 := hw _ (List.mem_of_getElem? (l := tables_1) (i := 32) rfl)
  have w_33 := hw _ (List.mem_of_getElem? (l := tables_1) (i := 33) rfl)
  show own_G p.tables e below (fun o U' => ∃ v L, o = .returned v ∧ (own_law_Q Z p0 p1 p2 p3 h0 n0) v U'.heap L ∧ FrameEnd s o U' L 16 128) (s₁.setTop (entryFrame m #[(.int p0), (.int p1), (.int p2), (.int p3)] maxLocals))
  refine own_go (B := s₁.setTop (mkF m 0 #[iv p0, iv p1, iv p2, iv p3, .unset, .unset, .unset, .unset, .unset, .unset, .unset, .unset, .unset, .unset, .unset, .unset] [])) (fun t k => castTop (own_law_ef m p0 p1 p2 p3) k) ?_
  have K0 := Keep.refl h0 []
  refine own_go (B := (s₁.setTop (mkF m 1 #[iv p0, iv p1, iv p2, iv p3, .unset, .unset, .unset, .unset, .unset, .unset, .unset, .unset, .unset, .unset, .unset, .unset] [(.int (1 : Int32))]))) (fun t k => XS.iconst X0.here hx rfl (hb hby at_0) k) ?_
  refine own_go (B := (s₁.setTop (mkF m 2 #[iv p0, iv p1, iv p2, iv p3, .unset, .unset, .unset, .unset, .unset, .unset, .unset, .unset, .unset, .unset, .unset, .unset] [(.int p0), (.int (1 : Int32))]))) (fun t k => XS.iloadN X0.here hx rfl (hb hby at_1) rfl k) ?_
  have lc1 := X0.ldcInt hx hown (v := (2147483647 : Int32)) (mvT hZ w_0) (g := (mkF m 2 #[iv p0, iv p1, iv p2, iv p3, .unset, .unset, .unset, .unset, .unset, .unset, .unset, .unset, .unset, .unset, .unset, .unset] [(.int p0), (.int (1 : Int32))])) rfl (hb hby at_2)
  refine own_go (B := (s₁.setTop (mkF m 4 #[iv p0, iv p1, iv p2, iv p3, .unset, .unset, .unset, .unset, .unset, .unset, .unset, .unset, .unset, .unset, .unset, .unset] [(.int (2147483647 : Int32)), (.int p0), (.int (1 : Int32))]))) lc1 ?_
  refine own_go (B := (s₁.setTop (mkF m 5 #[iv p0, iv p1, iv p2, iv p3, .unset, .unset, .unset, .unset, .unset, .unset, .unset, .unset, .unset, .unset, .unset, .unset] [(.int (p0 &&& (2147483647 : Int32))), (.int (1 : Int32))]))) (fun t k => XS.iand X0.here hx rfl (hb hby at_4) rfl k) ?_
  obtain ⟨_, _, ⟨T2, L2, k2, n2⟩, -, X2, ⟨Lc2, hQ2, l2, y2, z2⟩, st2⟩ := Jvm.LawKit.callS X0 hx (y := own_y2) hown (mvT hZ w_1) (mvT hZ w_2) (mvT hZ w_3) (mvT hZ w_4) (by decide) (backOf (W := 0) (own_mmax l Z a0 hw [] (1 : Int32) (p0 &&& (2147483647 : Int32)) h0 n0) hZ w_4 w_3 (by decide) (by decide)) (g := (mkF m 5 #[iv p0, iv p1, iv p2, iv p3, .unset, .unset, .unset, .unset, .unset, .unset, .unset, .unset, .unset, .unset, .unset, .unset] [(.int (p0 &&& (2147483647 : Int32))), (.int (1 : Int32))])) rfl (by rw [hml]; rfl) (argsL := [(.int (1 : Int32)), (.int (p0 &&& (2147483647 : Int32)))]) (rest := []) (lenOf own_pd2 rfl) rfl (by show 2 * 0 + _ ≤ _; exact own_b rfl) (hb hby at_5) (fun _ _ => ⟨rfl, e0, (own_b rfl : 0 + 0 ≤ _), (own_b rfl : 0 + 0 ≤ _)⟩)
  dsimp only [Pt.U, Pt.locs, Pt.cells, Pt.slots] at X2 l2 y2 z2 st2 hQ2
  subst l2 y2 z2
  obtain ⟨rfl, Nq2, eq2⟩ := hQ2
  have N2 := Fr.app N0 Nq2
  have e2 : T2.heap = h0 := eq2
  refine own_go (B := (T2.setTop (mkF m 8 #[iv p0, iv p1, iv p2, iv p3, .unset, .unset, .unset, .unset, .unset, .unset, .unset, .unset, .unset, .unset, .unset, .unset] [(.int (own_max (1 : Int32) (p0 &&& (2147483647 : Int32))))]))) st2 ?_
  obtain ⟨z8, hz8⟩ : ∃ z : Int32, z = (own_max (1 : Int32) (p0 &&& (2147483647 : Int32))) := ⟨_, rfl⟩
  rw [← hz8]
  refine own_go (B := (T2.setTop (mkF m 10 #[iv p0, iv p1, iv p2, iv p3, iv z8, .unset, .unset, .unset, .unset, .unset, .unset, .unset, .unset, .unset, .unset, .unset] []))) (fun t k => XS.istore X2.here hx rfl (hb hby at_8) rfl (l' := #[iv p0, iv p1, iv p2, iv p3, iv z8, .unset, .unset, .unset, .unset, .unset, .unset, .unset, .unset, .unset, .unset, .unset]) rfl k) ?_
  refine own_go (B := (T2.setTop (mkF m 11 #[iv p0, iv p1, iv p2, iv p3, iv z8, .unset, .unset, .unset, .unset, .unset, .unset, .unset, .unset, .unset, .unset, .unset] [(.int p1)]))) (fun t k => XS.iloadN X2.here hx rfl (hb hby at_10) rfl k) ?_
  refine own_go (B := (T2.setTop (mkF m 12 #[iv p0, iv p1, iv p2, iv p3, iv z8, .unset, .unset, .unset, .unset, .unset, .unset, .unset, .unset, .unset, .unset, .unset] [(.long (p1.toInt64))]))) (fun t k => XS.i2l X2.here hx rfl (hb hby at_11) rfl k) ?_
  have lc3 := X2.ldc2Long hx hown (v := (2147483647 : Int64)) (mvT hZ w_5) (g := (mkF m 12 #[iv p0, iv p1, iv p2, iv p3, iv z8, .unset, .unset, .unset, .unset, .unset, .unset, .unset, .unset, .unset, .unset, .unset] [(.long (p1.toInt64))])) rfl (hb hby at_12)
  refine own_go (B := (T2.setTop (mkF m 15 #[iv p0, iv p1, iv p2, iv p3, iv z8, .unset, .unset, .unset, .unset, .unset, .unset, .unset, .unset, .unset, .unset, .unset] [(.long (2147483647 : Int64)), (.long (p1.toInt64))]))) lc3 ?_
  refine own_go (B := (T2.setTop (mkF m 16 #[iv p0, iv p1, iv p2, iv p3, iv z8, .unset, .unset, .unset, .unset, .unset, .unset, .unset, .unset, .unset, .unset, .unset] [(.long ((p1.toInt64) &&& (2147483647 : Int64)))]))) (fun t k => XS.land X2.here hx rfl (hb hby at_15) rfl k) ?_
  refine own_go (B := (T2.setTop (mkF m 18 #[iv p0, iv p1, iv p2, iv p3, iv z8, .unset, .unset, .unset, .unset, .unset, .unset, .unset, .unset, .unset, .unset, .unset] [(.int z8), (.long ((p1.toInt64) &&& (2147483647 : Int64)))]))) (fun t k => XS.iload X2.here hx rfl (hb hby at_16) rfl k) ?_
  refine own_go (B := (T2.setTop (mkF m 19 #[iv p0, iv p1, iv p2, iv p3, iv z8, .unset, .unset, .unset, .unset, .unset, .unset, .unset, .unset, .unset, .unset, .unset] [(.long (z8.toInt64)), (.long ((p1.toInt64) &&& (2147483647 : Int64)))]))) (fun t k => XS.i2l X2.here hx rfl (hb hby at_18) rfl k) ?_
  refine own_go (B := (T2.setTop (mkF m 20 #[iv p0, iv p1, iv p2, iv p3, iv z8, .unset, .unset, .unset, .unset, .unset, .unset, .unset, .unset, .unset, .unset, .unset] [(.long (1 : Int64)), (.long (z8.toInt64)), (.long ((p1.toInt64) &&& (2147483647 : Int64)))]))) (fun t k => XS.lconst X2.here hx rfl (hb hby at_19) k) ?_
  refine own_go (B := (T2.setTop (mkF m 21 #[iv p0, iv p1, iv p2, iv p3, iv z8, .unset, .unset, .unset, .unset, .unset, .unset, .unset, .unset, .unset, .unset, .unset] [(.long ((z8.toInt64) + (1 : Int64))), (.long ((p1.toInt64) &&& (2147483647 : Int64)))]))) (fun t k => XS.ladd X2.here hx rfl (hb hby at_20) rfl k) ?_
  refine own_go (B := (T2.setTop (mkF m 22 #[iv p0, iv p1, iv p2, iv p3, iv z8, .unset, .unset, .unset, .unset, .unset, .unset, .unset, .unset, .unset, .unset, .unset] [(.long (((p1.toInt64) &&& (2147483647 : Int64)) - (((p1.toInt64) &&& (2147483647 : Int64)) / ((z8.toInt64) + (1 : Int64))) * ((z8.toInt64) + (1 : Int64))))]))) (fun t k => XS.lrem X2.here hx rfl (hb hby at_21) rfl (own_nz21 hz8) k) ?_
  refine own_go (B := (T2.setTop (mkF m 23 #[iv p0, iv p1, iv p2, iv p3, iv z8, .unset, .unset, .unset, .unset, .unset, .unset, .unset, .unset, .unset, .unset, .unset] [(.int ((((p1.toInt64) &&& (2147483647 : Int64)) - (((p1.toInt64) &&& (2147483647 : Int64)) / ((z8.toInt64) + (1 : Int64))) * ((z8.toInt64) + (1 : Int64))).toInt32))]))) (fun t k => XS.l2i X2.here hx rfl (hb hby at_22) rfl k) ?_
  obtain ⟨z23, hz23⟩ : ∃ z : Int32, z = ((((p1.toInt64) &&& (2147483647 : Int64)) - (((p1.toInt64) &&& (2147483647 : Int64)) / ((z8.toInt64) + (1 : Int64))) * ((z8.toInt64) + (1 : Int64))).toInt32) := ⟨_, rfl⟩
  rw [← hz23]
  refine own_go (B := (T2.setTop (mkF m 25 #[iv p0, iv p1, iv p2, iv p3, iv z8, iv z23, .unset, .unset, .unset, .unset, .unset, .unset, .unset, .unset, .unset, .unset] []))) (fun t k => XS.istore X2.here hx rfl (hb hby at_23) rfl (l' := #[iv p0, iv p1, iv p2, iv p3, iv z8, iv z23, .unset, .unset, .unset, .unset, .unset, .unset, .unset, .unset, .unset, .unset]) rfl k) ?_
  refine own_go (B := (T2.setTop (mkF m 26 #[iv p0, iv p1, iv p2, iv p3, iv z8, iv z23, .unset, .unset, .unset, .unset, .unset, .unset, .unset, .unset, .unset, .unset] [(.int p2)]))) (fun t k => XS.iloadN X2.here hx rfl (hb hby at_25) rfl k) ?_
  refine own_go (B := (T2.setTop (mkF m 27 #[iv p0, iv p1, iv p2, iv p3, iv z8, iv z23, .unset, .unset, .unset, .unset, .unset, .unset, .unset, .unset, .unset, .unset] [(.int (3 : Int32)), (.int p2)]))) (fun t k => XS.iconst X2.here hx rfl (hb hby at_26) k) ?_
  refine own_go (B := (T2.setTop (mkF m 28 #[iv p0, iv p1, iv p2, iv p3, iv z8, iv z23, .unset, .unset, .unset, .unset, .unset, .unset, .unset, .unset, .unset, .unset] [(.int (p2 &&& (3 : Int32)))]))) (fun t k => XS.iand X2.here hx rfl (hb hby at_27) rfl k) ?_
  obtain ⟨z28, hz28⟩ : ∃ z : Int32, z = (p2 &&& (3 : Int32)) := ⟨_, rfl⟩
  rw [← hz28]
  refine own_go (B := (T2.setTop (mkF m 30 #[iv p0, iv p1, iv p2, iv p3, iv z8, iv z23, iv z28, .unset, .unset, .unset, .unset, .unset, .unset, .unset, .unset, .unset] []))) (fun t k => XS.istore X2.here hx rfl (hb hby at_28) rfl (l' := #[iv p0, iv p1, iv p2, iv p3, iv z8, iv z23, iv z28, .unset, .unset, .unset, .unset, .unset, .unset, .unset, .unset, .unset]) rfl k) ?_
  have J74 : ∀ (fr : Int32) (hf : ¬ fr < 0 ∧ ¬ z8 < fr), own_G p.tables e below (fun o U' => ∃ v L, o = .returned v ∧ (own_law_Q Z p0 p1 p2 p3 h0 n0) v U'.heap L ∧ FrameEnd s o U' L 16 128) (T2.setTop (mkF m 74 #[iv p0, iv p1, iv p2, iv p3, iv z8, iv z23, iv z28, iv fr, .unset, .unset, .unset, .unset, .unset, .unset, .unset, .unset] [])) := by
    intro fr hf
    obtain ⟨T4, h4, X4, e4, E4, A4, D4, U4, st4⟩ := newO X2 hx hZ hown w_6 w_7 w_8 e2 (g := (mkF m 74 #[iv p0, iv p1, iv p2, iv p3, iv z8, iv z23, iv z28, iv fr, .unset, .unset, .unset, .unset, .unset, .unset, .unset, .unset] [])) rfl (hb hby at_74) (own_b rfl) (own_b rfl)
    obtain ⟨a4, ga4⟩ : ∃ z, z = h0.size := ⟨_, rfl⟩
    rw [← ga4] at A4 D4 U4 st4
    refine own_go (B := (T4.setTop (mkF m 77 #[iv p0, iv p1, iv p2, iv p3, iv z8, iv z23, iv z28, iv fr, .unset, .unset, .unset, .unset, .unset, .unset, .unset, .unset] [(.ref a4)]))) st4 ?_
    have Z5 : n0 ≤ h4.size := Nat.le_trans Z0 E4.1
    have K6 := Keep.ext K0 E4
    have gn4 : n0 ≤ a4 := Nat.le_trans Z0 (Nat.le_of_eq ga4.symm)
    have F7 : Fld Z h4 a4 "com/example/pagemason/pagemason/buffer/ChunkMetric" "id" "I" (.int (0 : Int32)) := D4 (Or.inr w_21) (ty := .int) (by decide)
    have F8 : Fld Z h4 a4 "com/example/pagemason/pagemason/buffer/ChunkMetric" "size" "I" (.int (0 : Int32)) := D4 (Or.inr w_23) (ty := .int) (by decide)
    have F9 : Fld Z h4 a4 "com/example/pagemason/pagemason/buffer/ChunkMetric" "freeBytes" "I" (.int (0 : Int32)) := D4 (Or.inr w_25) (ty := .int) (by decide)
    refine own_go (B := (T4.setTop (mkF m 78 #[iv p0, iv p1, iv p2, iv p3, iv z8, iv z23, iv z28, iv fr, .unset, .unset, .unset, .unset, .unset, .unset, .unset, .unset] [(.ref a4), (.ref a4)]))) (fun t k => XS.dup X4.here hx rfl (hb hby at_77) rfl rfl k) ?_
    refine own_go (B := (T4.setTop (mkF m 79 #[iv p0, iv p1, iv p2, iv p3, iv z8, iv z23, iv z28, iv fr, .unset, .unset, .unset, .unset, .unset, .unset, .unset, .unset] [(.int p3), (.ref a4), (.ref a4)]))) (fun t k => XS.iloadN X4.here hx rfl (hb hby at_78) rfl k) ?_
    refine own_go (B := (T4.setTop (mkF m 81 #[iv p0, iv p1, iv p2, iv p3, iv z8, iv z23, iv z28, iv fr, .unset, .unset, .unset, .unset, .unset, .unset, .unset, .unset] [(.int z8), (.int p3), (.ref a4), (.ref a4)]))) (fun t k => XS.iload X4.here hx rfl (hb hby at_79) rfl k) ?_
    refine own_go (B := (T4.setTop (mkF m 83 #[iv p0, iv p1, iv p2, iv p3, iv z8, iv z23, iv z28, iv fr, .unset, .unset, .unset, .unset, .unset, .unset, .unset, .unset] [(.int fr), (.int z8), (.int p3), (.ref a4), (.ref a4)]))) (fun t k => XS.iload X4.here hx rfl (hb hby at_81) rfl k) ?_
    obtain ⟨_, _, ⟨T10, L10, k10, n10⟩, -, X10, ⟨Lc10, hQ10, l10, y10, z10⟩, st10⟩ := X4.specialBack hx (y := own_y3) rfl hown (mvT hZ w_9) (mvT hZ w_10) (mvT hZ w_11) (by decide) (backOf (W := 1) (own_ct l Z a0 hw [] a4 p3 z8 fr h4 n0 Z5 A4 gn4 F7 F8 F9) hZ w_11 w_8 (by decide) (by decide)) (g := (mkF m 83 #[iv p0, iv p1, iv p2, iv p3, iv z8, iv z23, iv z28, iv fr, .unset, .unset, .unset, .unset, .unset, .unset, .unset, .unset] [(.int fr), (.int z8), (.int p3), (.ref a4), (.ref a4)])) rfl (by rw [hml]; rfl) (Steps.refl _) (a := a4) (argsL := [(.int p3), (.int z8), (.int fr)]) (rest := [(.ref a4)]) (lenOf own_pd3 rfl) rfl (by show 2 * 0 + _ ≤ _; exact own_b rfl) (hb hby at_83) (fun _ _ => ⟨rfl, e4, (own_b rfl : 1 + 0 ≤ _), (own_b rfl : 3 + 0 ≤ _)⟩)
    dsimp only [Pt.U, Pt.locs, Pt.cells, Pt.slots] at X10 l10 y10 z10 st10 hQ10
    subst l10 y10 z10
    obtain ⟨rfl, Nq10, K10, Ex10, g0_10, g1_10, g2_10⟩ := hQ10
    have N10 := Fr.app N2 Nq10
    have F11 : n0 ≤ T10.heap.size := Nat.le_trans Z5 K10.1
    have F12 := Keep.trans K6 K10 (allS (Or.inr (Nat.le_trans K0.1 (Nat.le_of_eq ga4.symm))) all0)
    have F13 := Exa.keep A4 K10
    refine own_tr (B := (T10.setTop (mkF m 86 #[iv p0, iv p1, iv p2, iv p3, iv z8, iv z23, iv z28, iv fr, .unset, .unset, .unset, .unset, .unset, .unset, .unset, .unset] [(.ref a4)]))) st10 ?_
    refine own_go (B := (T10.setTop (mkF m 88 #[iv p0, iv p1, iv p2, iv p3, iv z8, iv z23, iv z28, iv fr, rv a4, .unset, .unset, .unset, .unset, .unset, .unset, .unset] []))) (fun t k => XS.astore X10.here hx rfl (hb hby at_86) rfl rfl (l' := #[iv p0, iv p1, iv p2, iv p3, iv z8, iv z23, iv z28, iv fr, rv a4, .unset, .unset, .unset, .unset, .unset, .unset, .unset]) rfl k) ?_
    refine own_go (B := (T10.setTop (mkF m 90 #[iv p0, iv p1, iv p2, iv p3, iv z8, iv z23, iv z28, iv fr, rv a4, .unset, .unset, .unset, .unset, .unset, .unset, .unset] [(.ref a4)]))) (fun t k => XS.aload X10.here hx rfl (hb hby at_88) rfl rfl k) ?_
    obtain ⟨cq17, kq17, qa17, qb17, qc17⟩ := isOf hZ rfl Ex10
    obtain ⟨_, _, ⟨T17, L17, k17, n17⟩, -, X17, ⟨Lc17, hQ17, l17, y17, z17⟩, st17⟩ := X10.virtualBack hx (y := own_y4) (z := own_y4) hown (mvT hZ w_26) (mvT hZ w_27) (notFace_of_selects (args := #[]) (mvT hZ w_29)) (mvT hZ w_29) (mvT hZ w_28) (by decide) (backOf (W := 0) (own_us l Z a0 hw [] a4 z8 fr T10.heap n0 g1_10 g2_10 (own_nz8 hz8)) hZ w_30 w_8 (by decide) (by decide)) qa17 qc17 (g := (mkF m 90 #[iv p0, iv p1, iv p2, iv p3, iv z8, iv z23, iv z28, iv fr, rv a4, .unset, .unset, .unset, .unset, .unset, .unset, .unset] [(.ref a4)])) rfl (by rw [hml]; rfl) (Steps.refl _) (argsL := []) (rest := []) (lenOf own_pd4 rfl) rfl (by show 2 * 0 + _ ≤ _; exact own_b rfl) (hb hby at_90) (fun _ _ => ⟨rfl, rfl, (own_b rfl : 1 + 0 ≤ _), (own_b rfl : 3 + 0 ≤ _)⟩)
    dsimp only [Pt.U, Pt.locs, Pt.cells, Pt.slots] at X17 l17 y17 z17 st17 hQ17
    subst l17 y17 z17
    obtain ⟨rfl, Nq17, eq17⟩ := hQ17
    have N17 := Fr.app N10 Nq17
    have e17 : T17.heap = T10.heap := eq17
    refine own_tr (B := (T17.setTop (mkF m 93 #[iv p0, iv p1, iv p2, iv p3, iv z8, iv z23, iv z28, iv fr, rv a4, .unset, .unset, .unset, .unset, .unset, .unset, .unset] [(.int (own_usage z8 fr))]))) st17 ?_
    obtain ⟨z93, hz93⟩ : ∃ z : Int32, z = (own_usage z8 fr) := ⟨_, rfl⟩
    rw [← hz93]
    refine own_go (B := (T17.setTop (mkF m 95 #[iv p0, iv p1, iv p2, iv p3, iv z8, iv z23, iv z28, iv fr, rv a4, iv z93, .unset, .unset, .unset, .unset, .unset, .unset] []))) (fun t k => XS.istore X17.here hx rfl (hb hby at_93) rfl (l' := #[iv p0, iv p1, iv p2, iv p3, iv z8, iv z23, iv z28, iv fr, rv a4, iv z93, .unset, .unset, .unset, .unset, .unset, .unset]) rfl k) ?_
    refine own_go (B := (T17.setTop (mkF m 97 #[iv p0, iv p1, iv p2, iv p3, iv z8, iv z23, iv z28, iv fr, rv a4, iv z93, .unset, .unset, .unset, .unset, .unset, .unset] [(.int z8)]))) (fun t k => XS.iload X17.here hx rfl (hb hby at_95) rfl k) ?_
    refine own_go (B := (T17.setTop (mkF m 98 #[iv p0, iv p1, iv p2, iv p3, iv z8, iv z23, iv z28, iv fr, rv a4, iv z93, .unset, .unset, .unset, .unset, .unset, .unset] [(.long (z8.toInt64))]))) (fun t k => XS.i2l X17.here hx rfl (hb hby at_97) rfl k) ?_
    obtain ⟨z98, hz98⟩ : ∃ z : Int64, z = (z8.toInt64) := ⟨_, rfl⟩
    rw [← hz98]
    refine own_go (B := (T17.setTop (mkF m 100 #[iv p0, iv p1, iv p2, iv p3, iv z8, iv z23, iv z28, iv fr, rv a4, iv z93, .val (.long z98), .second, .unset, .unset, .unset, .unset] []))) (fun t k => XS.lstore X17.here hx rfl (hb hby at_98) rfl (l' := #[iv p0, iv p1, iv p2, iv p3, iv z8, iv z23, iv z28, iv fr, rv a4, iv z93, .val (.long z98), .second, .unset, .unset, .unset, .unset]) rfl k) ?_
    refine own_go (B := (T17.setTop (mkF m 102 #[iv p0, iv p1, iv p2, iv p3, iv z8, iv z23, iv z28, iv fr, rv a4, iv z93, .val (.long z98), .second, .unset, .unset, .unset, .unset] [(.int fr)]))) (fun t k => XS.iload X17.here hx rfl (hb hby at_100) rfl k) ?_
    refine own_go (B := (T17.setTop (mkF m 103 #[iv p0, iv p1, iv p2, iv p3, iv z8, iv z23, iv z28, iv fr, rv a4, iv z93, .val (.long z98), .second, .unset, .unset, .unset, .unset] [(.long (fr.toInt64))]))) (fun t k => XS.i2l X17.here hx rfl (hb hby at_102) rfl k) ?_
    obtain ⟨z103, hz103⟩ : ∃ z : Int64, z = (fr.toInt64) := ⟨_, rfl⟩
    rw [← hz103]
    refine own_go (B := (T17.setTop (mkF m 105 #[iv p0, iv p1, iv p2, iv p3, iv z8, iv z23, iv z28, iv fr, rv a4, iv z93, .val (.long z98), .second, .val (.long z103), .second, .unset, .unset] []))) (fun t k => XS.lstore X17.here hx rfl (hb hby at_103) rfl (l' := #[iv p0, iv p1, iv p2, iv p3, iv z8, iv z23, iv z28, iv fr, rv a4, iv z93, .val (.long z98), .second, .val (.long z103), .second, .unset, .unset]) rfl k) ?_
    refine own_go (B := (T17.setTop (mkF m 107 #[iv p0, iv p1, iv p2, iv p3, iv z8, iv z23, iv z28, iv fr, rv a4, iv z93, .val (.long z98), .second, .val (.long z103), .second, .unset, .unset] [(.int fr)]))) (fun t k => XS.iload X17.here hx rfl (hb hby at_105) rfl k) ?_
    refine own_if X17 hx (hb hby at_107) (pc' := 123) (pn := 110) (by decide) (by decide) rfl (fun (hc107 : ¬ fr = (0 : Int32)) => ?_) (fun (hc107 : fr = (0 : Int32)) => ?_)
    · refine own_go (B := (T17.setTop (mkF m 125 #[iv p0, iv p1, iv p2, iv p3, iv z8, iv z23, iv z28, iv fr, rv a4, iv z93, .val (.long z98), .second, .val (.long z103), .second, .unset, .unset] [(.int z93)]))) (fun t k => XS.iload X17.here hx rfl (hb hby at_123) rfl k) ?_
      have hc125 : ¬ z93 < (0 : Int32) := (own_ur hz8 hf hc107 hz93).1
      refine own_ifN X17 hx (hb hby at_125) (pn := 128) rfl hc125 ?_
      refine own_go (B := (T17.setTop (mkF m 130 #[iv p0, iv p1, iv p2, iv p3, iv z8, iv z23, iv z28, iv fr, rv a4, iv z93, .val (.long z98), .second, .val (.long z103), .second, .unset, .unset] [(.int z93)]))) (fun t k => XS.iload X17.here hx rfl (hb hby at_128) rfl k) ?_
      refine own_go (B := (T17.setTop (mkF m 132 #[iv p0, iv p1, iv p2, iv p3, iv z8, iv z23, iv z28, iv fr, rv a4, iv z93, .val (.long z98), .second, .val (.long z103), .second, .unset, .unset] [(.int (99 : Int32)), (.int z93)]))) (fun t k => XS.bipush X17.here hx rfl (hb hby at_130) k) ?_
      have hc132 : ¬ (99 : Int32) < z93 := (own_ur hz8 hf hc107 hz93).2
      refine own_icmpY X17 hx (hb hby at_132) (pc' := 137) (by decide) (by decide) hc132 ?_
      refine own_go (B := (T17.setTop (mkF m 139 #[iv p0, iv p1, iv p2, iv p3, iv z8, iv z23, iv z28, iv fr, rv a4, iv z93, .val (.long z98), .second, .val (.long z103), .second, .unset, .unset] [(.int z93)]))) (fun t k => XS.iload X17.here hx rfl (hb hby at_137) rfl k) ?_
      refine own_go (B := (T17.setTop (mkF m 141 #[iv p0, iv p1, iv p2, iv p3, iv z8, iv z23, iv z28, iv fr, rv a4, iv z93, .val (.long z98), .second, .val (.long z103), .second, .unset, .unset] [(.int (99 : Int32)), (.int z93)]))) (fun t k => XS.bipush X17.here hx rfl (hb hby at_139) k) ?_
      refine own_icmp X17 hx (hb hby at_141) (pc' := 166) (pn := 144) (by decide) (by decide) rfl (fun (hc141 : ¬ z93 = (99 : Int32)) => ?_) (fun (hc141 : z93 = (99 : Int32)) => ?_)
      · have lc18 := X17.ldc2Long hx hown (v := (100 : Int64)) (mvT hZ w_32) (g := (mkF m 166 #[iv p0, iv p1, iv p2, iv p3, iv z8, iv z23, iv z28, iv fr, rv a4, iv z93, .val (.long z98), .second, .val (.long z103), .second, .unset, .unset] [])) rfl (hb hby at_166)
        refine own_go (B := (T17.setTop (mkF m 169 #[iv p0, iv p1, iv p2, iv p3, iv z8, iv z23, iv z28, iv fr, rv a4, iv z93, .val (.long z98), .second, .val (.long z103), .second, .unset, .unset] [(.long (100 : Int64))]))) lc18 ?_
        refine own_go (B := (T17.setTop (mkF m 171 #[iv p0, iv p1, iv p2, iv p3, iv z8, iv z23, iv z28, iv fr, rv a4, iv z93, .val (.long z98), .second, .val (.long z103), .second, .unset, .unset] [(.int z93), (.long (100 : Int64))]))) (fun t k => XS.iload X17.here hx rfl (hb hby at_169) rfl k) ?_
        refine own_go (B := (T17.setTop (mkF m 172 #[iv p0, iv p1, iv p2, iv p3, iv z8, iv z23, iv z28, iv fr, rv a4, iv z93, .val (.long z98), .second, .val (.long z103), .second, .unset, .unset] [(.long (z93.toInt64)), (.long (100 : Int64))]))) (fun t k => XS.i2l X17.here hx rfl (hb hby at_171) rfl k) ?_
        refine own_go (B := (T17.setTop (mkF m 173 #[iv p0, iv p1, iv p2, iv p3, iv z8, iv z23, iv z28, iv fr, rv a4, iv z93, .val (.long z98), .second, .val (.long z103), .second, .unset, .unset] [(.long ((100 : Int64) - (z93.toInt64)))]))) (fun t k => XS.lsub X17.here hx rfl (hb hby at_172) rfl k) ?_
        obtain ⟨z173, hz173⟩ : ∃ z : Int64, z = ((100 : Int64) - (z93.toInt64)) := ⟨_, rfl⟩
        rw [← hz173]
        refine own_go (B := (T17.setTop (mkF m 175 #[iv p0, iv p1, iv p2, iv p3, iv z8, iv z23, iv z28, iv fr, rv a4, iv z93, .val (.long z98), .second, .val (.long z103), .second, .val (.long z173), .second] []))) (fun t k => XS.lstore X17.here hx rfl (hb hby at_173) rfl (l' := #[iv p0, iv p1, iv p2, iv p3, iv z8, iv z23, iv z28, iv fr, rv a4, iv z93, .val (.long z98), .second, .val (.long z103), .second, .val (.long z173), .second]) rfl k) ?_
        refine own_go (B := (T17.setTop (mkF m 177 #[iv p0, iv p1, iv p2, iv p3, iv z8, iv z23, iv z28, iv fr, rv a4, iv z93, .val (.long z98), .second, .val (.long z103), .second, .val (.long z173), .second] [(.long z173)]))) (fun t k => XS.lload X17.here hx rfl (hb hby at_175) rfl k) ?_
        refine own_go (B := (T17.setTop (mkF m 179 #[iv p0, iv p1, iv p2, iv p3, iv z8, iv z23, iv z28, iv fr, rv a4, iv z93, .val (.long z98), .second, .val (.long z103), .second, .val (.long z173), .second] [(.long z98), (.long z173)]))) (fun t k => XS.lload X17.here hx rfl (hb hby at_177) rfl k) ?_
        refine own_go (B := (T17.setTop (mkF m 180 #[iv p0, iv p1, iv p2, iv p3, iv z8, iv z23, iv z28, iv fr, rv a4, iv z93, .val (.long z98), .second, .val (.long z103), .second, .val (.long z173), .second] [(.long (z173 * z98))]))) (fun t k => XS.lmul X17.here hx rfl (hb hby at_179) rfl k) ?_
        refine own_go (B := (T17.setTop (mkF m 182 #[iv p0, iv p1, iv p2, iv p3, iv z8, iv z23, iv z28, iv fr, rv a4, iv z93, .val (.long z98), .second, .val (.long z103), .second, .val (.long z173), .second] [(.long z103), (.long (z173 * z98))]))) (fun t k => XS.lload X17.here hx rfl (hb hby at_180) rfl k) ?_
        have lc19 := X17.ldc2Long hx hown (v := (100 : Int64)) (mvT hZ w_32) (g := (mkF m 182 #[iv p0, iv p1, iv p2, iv p3, iv z8, iv z23, iv z28, iv fr, rv a4, iv z93, .val (.long z98), .second, .val (.long z103), .second, .val (.long z173), .second] [(.long z103), (.long (z173 * z98))])) rfl (hb hby at_182)
        refine own_go (B := (T17.setTop (mkF m 185 #[iv p0, iv p1, iv p2, iv p3, iv z8, iv z23, iv z28, iv fr, rv a4, iv z93, .val (.long z98), .second, .val (.long z103), .second, .val (.long z173), .second] [(.long (100 : Int64)), (.long z103), (.long (z173 * z98))]))) lc19 ?_
        refine own_go (B := (T17.setTop (mkF m 186 #[iv p0, iv p1, iv p2, iv p3, iv z8, iv z23, iv z28, iv fr, rv a4, iv z93, .val (.long z98), .second, .val (.long z103), .second, .val (.long z173), .second] [(.long (z103 * (100 : Int64))), (.long (z173 * z98))]))) (fun t k => XS.lmul X17.here hx rfl (hb hby at_185) rfl k) ?_
        refine own_go (B := (T17.setTop (mkF m 187 #[iv p0, iv p1, iv p2, iv p3, iv z8, iv z23, iv z28, iv fr, rv a4, iv z93, .val (.long z98), .second, .val (.long z103), .second, .val (.long z173), .second] [(.int (lcmpW (z173 * z98) (z103 * (100 : Int64))))]))) (fun t k => XS.lcmp X17.here hx rfl (hb hby at_186) rfl k) ?_
        have hc187 : ¬ (z103 * (100 : Int64)) < (z173 * z98) := (own_uf hz8 hf hc107 hz93 hc141 hz98 hz103 hz173).1
        refine own_lifN X17 hx (hb hby at_187) (pn := 190) rfl hc187 ?_
        refine own_go (B := (T17.setTop (mkF m 192 #[iv p0, iv p1, iv p2, iv p3, iv z8, iv z23, iv z28, iv fr, rv a4, iv z93, .val (.long z98), .second, .val (.long z103), .second, .val (.long z173), .second] [(.long z103)]))) (fun t k => XS.lload X17.here hx rfl (hb hby at_190) rfl k) ?_
        have lc20 := X17.ldc2Long hx hown (v := (100 : Int64)) (mvT hZ w_32) (g := (mkF m 192 #[iv p0, iv p1, iv p2, iv p3, iv z8, iv z23, iv z28, iv fr, rv a4, iv z93, .val (.long z98), .second, .val (.long z103), .second, .val (.long z173), .second] [(.long z103)])) rfl (hb hby at_192)
        refine own_go (B := (T17.setTop (mkF m 195 #[iv p0, iv p1, iv p2, iv p3, iv z8, iv z23, iv z28, iv fr, rv a4, iv z93, .val (.long z98), .second, .val (.long z103), .second, .val (.long z173), .second] [(.long (100 : Int64)), (.long z103)]))) lc20 ?_
        refine own_go (B := (T17.setTop (mkF m 196 #[iv p0, iv p1, iv p2, iv p3, iv z8, iv z23, iv z28, iv fr, rv a4, iv z93, .val (.long z98), .second, .val (.long z103), .second, .val (.long z173), .second] [(.long (z103 * (100 : Int64)))]))) (fun t k => XS.lmul X17.here hx rfl (hb hby at_195) rfl k) ?_
        refine own_go (B := (T17.setTop (mkF m 198 #[iv p0, iv p1, iv p2, iv p3, iv z8, iv z23, iv z28, iv fr, rv a4, iv z93, .val (.long z98), .second, .val (.long z103), .second, .val (.long z173), .second] [(.long z173), (.long (z103 * (100 : Int64)))]))) (fun t k => XS.lload X17.here hx rfl (hb hby at_196) rfl k) ?_
        refine own_go (B := (T17.setTop (mkF m 199 #[iv p0, iv p1, iv p2, iv p3, iv z8, iv z23, iv z28, iv fr, rv a4, iv z93, .val (.long z98), .second, .val (.long z103), .second, .val (.long z173), .second] [(.long (1 : Int64)), (.long z173), (.long (z103 * (100 : Int64)))]))) (fun t k => XS.lconst X17.here hx rfl (hb hby at_198) k) ?_
        refine own_go (B := (T17.setTop (mkF m 200 #[iv p0, iv p1, iv p2, iv p3, iv z8, iv z23, iv z28, iv fr, rv a4, iv z93, .val (.long z98), .second, .val (.long z103), .second, .val (.long z173), .second] [(.long (z173 + (1 : Int64))), (.long (z103 * (100 : Int64)))]))) (fun t k => XS.ladd X17.here hx rfl (hb hby at_199) rfl k) ?_
        refine own_go (B := (T17.setTop (mkF m 202 #[iv p0, iv p1, iv p2, iv p3, iv z8, iv z23, iv z28, iv fr, rv a4, iv z93, .val (.long z98), .second, .val (.long z103), .second, .val (.long z173), .second] [(.long z98), (.long (z173 + (1 : Int64))), (.long (z103 * (100 : Int64)))]))) (fun t k => XS.lload X17.here hx rfl (hb hby at_200) rfl k) ?_
        refine own_go (B := (T17.setTop (mkF m 203 #[iv p0, iv p1, iv p2, iv p3, iv z8, iv z23, iv z28, iv fr, rv a4, iv z93, .val (.long z98), .second, .val (.long z103), .second, .val (.long z173), .second] [(.long ((z173 + (1 : Int64)) * z98)), (.long (z103 * (100 : Int64)))]))) (fun t k => XS.lmul X17.here hx rfl (hb hby at_202) rfl k) ?_
        refine own_go (B := (T17.setTop (mkF m 204 #[iv p0, iv p1, iv p2, iv p3, iv z8, iv z23, iv z28, iv fr, rv a4, iv z93, .val (.long z98), .second, .val (.long z103), .second, .val (.long z173), .second] [(.int (lcmpW (z103 * (100 : Int64)) ((z173 + (1 : Int64)) * z98)))]))) (fun t k => XS.lcmp X17.here hx rfl (hb hby at_203) rfl k) ?_
        have hc204 : (z103 * (100 : Int64)) < ((z173 + (1 : Int64)) * z98) := (own_uf hz8 hf hc107 hz93 hc141 hz98 hz103 hz173).2
        refine own_lifN X17 hx (hb hby at_204) (pn := 207) rfl hc204 ?_
        refine own_go (B := (T17.setTop (mkF m 208 #[iv p0, iv p1, iv p2, iv p3, iv z8, iv z23, iv z28, iv fr, rv a4, iv z93, .val (.long z98), .second, .val (.long z103), .second, .val (.long z173), .second] [(.int (1 : Int32))]))) (fun t k => XS.iconst X17.here hx rfl (hb hby at_207) k) ?_
        refine own_go (B := (T17.setTop (mkF m 212 #[iv p0, iv p1, iv p2, iv p3, iv z8, iv z23, iv z28, iv fr, rv a4, iv z93, .val (.long z98), .second, .val (.long z103), .second, .val (.long z173), .second] [(.int (1 : Int32))]))) (fun t k => XS.goto X17.here hx rfl (pc0 := 208) (pc' := 212) rfl (hb hby at_208) (by decide) (by decide) k) ?_
        exact own_retZ X17 hx hlk Bd.returns (hb hby at_212) (by decide) (own_b rfl) (own_b rfl) (Q := (own_law_Q Z p0 p1 p2 p3 h0 n0)) ⟨rfl, N17⟩
      · refine own_go (B := (T17.setTop (mkF m 146 #[iv p0, iv p1, iv p2, iv p3, iv z8, iv z23, iv z28, iv fr, rv a4, iv z93, .val (.long z98), .second, .val (.long z103), .second, .unset, .unset] [(.long z103)]))) (fun t k => XS.lload X17.here hx rfl (hb hby at_144) rfl k) ?_
        have lc21 := X17.ldc2Long hx hown (v := (100 : Int64)) (mvT hZ w_32) (g := (mkF m 146 #[iv p0, iv p1, iv p2, iv p3, iv z8, iv z23, iv z28, iv fr, rv a4, iv z93, .val (.long z98), .second, .val (.long z103), .second, .unset, .unset] [(.long z103)])) rfl (hb hby at_146)
        refine own_go (B := (T17.setTop (mkF m 149 #[iv p0, iv p1, iv p2, iv p3, iv z8, iv z23, iv z28, iv fr, rv a4, iv z93, .val (.long z98), .second, .val (.long z103), .second, .unset, .unset] [(.long (100 : Int64)), (.long z103)]))) lc21 ?_
        refine own_go (B := (T17.setTop (mkF m 150 #[iv p0, iv p1, iv p2, iv p3, iv z8, iv z23, iv z28, iv fr, rv a4, iv z93, .val (.long z98), .second, .val (.long z103), .second, .unset, .unset] [(.long (z103 * (100 : Int64)))]))) (fun t k => XS.lmul X17.here hx rfl (hb hby at_149) rfl k) ?_
        have lc22 := X17.ldc2Long hx hown (v := (2 : Int64)) (mvT hZ w_33) (g := (mkF m 150 #[iv p0, iv p1, iv p2, iv p3, iv z8, iv z23, iv z28, iv fr, rv a4, iv z93, .val (.long z98), .second, .val (.long z103), .second, .unset, .unset] [(.long (z103 * (100 : Int64)))])) rfl (hb hby at_150)
        refine own_go (B := (T17.setTop (mkF m 153 #[iv p0, iv p1, iv p2, iv p3, iv z8, iv z23, iv z28, iv fr, rv a4, iv z93, .val (.long z98), .second, .val (.long z103), .second, .unset, .unset] [(.long (2 : Int64)), (.long (z103 * (100 : Int64)))]))) lc22 ?_
        refine own_go (B := (T17.setTop (mkF m 155 #[iv p0, iv p1, iv p2, iv p3, iv z8, iv z23, iv z28, iv fr, rv a4, iv z93, .val (.long z98), .second, .val (.long z103), .second, .unset, .unset] [(.long z98), (.long (2 : Int64)), (.long (z103 * (100 : Int64)))]))) (fun t k => XS.lload X17.here hx rfl (hb hby at_153) rfl k) ?_
        refine own_go (B := (T17.setTop (mkF m 156 #[iv p0, iv p1, iv p2, iv p3, iv z8, iv z23, iv z28, iv fr, rv a4, iv z93, .val (.long z98), .second, .val (.long z103), .second, .unset, .unset] [(.long ((2 : Int64) * z98)), (.long (z103 * (100 : Int64)))]))) (fun t k => XS.lmul X17.here hx rfl (hb hby at_155) rfl k) ?_
        refine own_go (B := (T17.setTop (mkF m 157 #[iv p0, iv p1, iv p2, iv p3, iv z8, iv z23, iv z28, iv fr, rv a4, iv z93, .val (.long z98), .second, .val (.long z103), .second, .unset, .unset] [(.int (lcmpW (z103 * (100 : Int64)) ((2 : Int64) * z98)))]))) (fun t k => XS.lcmp X17.here hx rfl (hb hby at_156) rfl k) ?_
        have hc157 : (z103 * (100 : Int64)) < ((2 : Int64) * z98) := (own_u99 hz8 hf hc107 hz93 hc141 hz98 hz103)
        refine own_lifN X17 hx (hb hby at_157) (pn := 160) rfl hc157 ?_
        refine own_go (B := (T17.setTop (mkF m 161 #[iv p0, iv p1, iv p2, iv p3, iv z8, iv z23, iv z28, iv fr, rv a4, iv z93, .val (.long z98), .second, .val (.long z103), .second, .unset, .unset] [(.int (1 : Int32))]))) (fun t k => XS.iconst X17.here hx rfl (hb hby at_160) k) ?_
        refine own_go (B := (T17.setTop (mkF m 165 #[iv p0, iv p1, iv p2, iv p3, iv z8, iv z23, iv z28, iv fr, rv a4, iv z93, .val (.long z98), .second, .val (.long z103), .second, .unset, .unset] [(.int (1 : Int32))]))) (fun t k => XS.goto X17.here hx rfl (pc0 := 161) (pc' := 165) rfl (hb hby at_161) (by decide) (by decide) k) ?_
        exact own_retZ X17 hx hlk Bd.returns (hb hby at_165) (by decide) (own_b rfl) (own_b rfl) (Q := (own_law_Q Z p0 p1 p2 p3 h0 n0)) ⟨rfl, N17⟩
    · refine own_go (B := (T17.setTop (mkF m 112 #[iv p0, iv p1, iv p2, iv p3, iv z8, iv z23, iv z28, iv fr, rv a4, iv z93, .val (.long z98), .second, .val (.long z103), .second, .unset, .unset] [(.int z93)]))) (fun t k => XS.iload X17.here hx rfl (hb hby at_110) rfl k) ?_
      refine own_go (B := (T17.setTop (mkF m 114 #[iv p0, iv p1, iv p2, iv p3, iv z8, iv z23, iv z28, iv fr, rv a4, iv z93, .val (.long z98), .second, .val (.long z103), .second, .unset, .unset] [(.int (100 : Int32)), (.int z93)]))) (fun t k => XS.bipush X17.here hx rfl (hb hby at_112) k) ?_
      have hc114 : z93 = (100 : Int32) := (own_u0 hz93 hc107)
      refine own_icmpN X17 hx (hb hby at_114) (pn := 117) rfl hc114 ?_
      refine own_go (B := (T17.setTop (mkF m 118 #[iv p0, iv p1, iv p2, iv p3, iv z8, iv z23, iv z28, iv fr, rv a4, iv z93, .val (.long z98), .second, .val (.long z103), .second, .unset, .unset] [(.int (1 : Int32))]))) (fun t k => XS.iconst X17.here hx rfl (hb hby at_117) k) ?_
      refine own_go (B := (T17.setTop (mkF m 122 #[iv p0, iv p1, iv p2, iv p3, iv z8, iv z23, iv z28, iv fr, rv a4, iv z93, .val (.long z98), .second, .val (.long z103), .second, .unset, .unset] [(.int (1 : Int32))]))) (fun t k => XS.goto X17.here hx rfl (pc0 := 118) (pc' := 122) rfl (hb hby at_118) (by decide) (by decide) k) ?_
      exact own_retZ X17 hx hlk Bd.returns (hb hby at_122) (by decide) (own_b rfl) (own_b rfl) (Q := (own_law_Q Z p0 p1 p2 p3 h0 n0)) ⟨rfl, N17⟩
  refine own_go (B := (T2.setTop (mkF m 32 #[iv p0, iv p1, iv p2, iv p3, iv z8, iv z23, iv z28, .unset, .unset, .unset, .unset, .unset, .unset, .unset, .unset, .unset] [(.int z28)]))) (fun t k => XS.iload X2.here hx rfl (hb hby at_30) rfl k) ?_
  refine own_if X2 hx (hb hby at_32) (pc' := 41) (pn := 35) (by decide) (by decide) rfl (fun (hc32 : ¬ z28 = (0 : Int32)) => ?_) (fun (hc32 : z28 = (0 : Int32)) => ?_)
  · refine own_go (B := (T2.setTop (mkF m 43 #[iv p0, iv p1, iv p2, iv p3, iv z8, iv z23, iv z28, .unset, .unset, .unset, .unset, .unset, .unset, .unset, .unset, .unset] [(.int z28)]))) (fun t k => XS.iload X2.here hx rfl (hb hby at_41) rfl k) ?_
    refine own_go (B := (T2.setTop (mkF m 44 #[iv p0, iv p1, iv p2, iv p3, iv z8, iv z23, iv z28, .unset, .unset, .unset, .unset, .unset, .unset, .unset, .unset, .unset] [(.int (1 : Int32)), (.int z28)]))) (fun t k => XS.iconst X2.here hx rfl (hb hby at_43) k) ?_
    refine own_icmp X2 hx (hb hby at_44) (pc' := 54) (pn := 47) (by decide) (by decide) rfl (fun (hc44 : ¬ z28 = (1 : Int32)) => ?_) (fun (hc44 : z28 = (1 : Int32)) => ?_)
    · refine own_go (B := (T2.setTop (mkF m 56 #[iv p0, iv p1, iv p2, iv p3, iv z8, iv z23, iv z28, .unset, .unset, .unset, .unset, .unset, .unset, .unset, .unset, .unset] [(.int z28)]))) (fun t k => XS.iload X2.here hx rfl (hb hby at_54) rfl k) ?_
      refine own_go (B := (T2.setTop (mkF m 57 #[iv p0, iv p1, iv p2, iv p3, iv z8, iv z23, iv z28, .unset, .unset, .unset, .unset, .unset, .unset, .unset, .unset, .unset] [(.int (2 : Int32)), (.int z28)]))) (fun t k => XS.iconst X2.here hx rfl (hb hby at_56) k) ?_
      refine own_icmp X2 hx (hb hby at_57) (pc' := 67) (pn := 60) (by decide) (by decide) rfl (fun (hc57 : ¬ z28 = (2 : Int32)) => ?_) (fun (hc57 : z28 = (2 : Int32)) => ?_)
      · refine own_go (B := (T2.setTop (mkF m 69 #[iv p0, iv p1, iv p2, iv p3, iv z8, iv z23, iv z28, .unset, .unset, .unset, .unset, .unset, .unset, .unset, .unset, .unset] [(.int z8)]))) (fun t k => XS.iload X2.here hx rfl (hb hby at_67) rfl k) ?_
        refine own_go (B := (T2.setTop (mkF m 71 #[iv p0, iv p1, iv p2, iv p3, iv z8, iv z23, iv z28, .unset, .unset, .unset, .unset, .unset, .unset, .unset, .unset, .unset] [(.int z23), (.int z8)]))) (fun t k => XS.iload X2.here hx rfl (hb hby at_69) rfl k) ?_
        refine own_go (B := (T2.setTop (mkF m 72 #[iv p0, iv p1, iv p2, iv p3, iv z8, iv z23, iv z28, .unset, .unset, .unset, .unset, .unset, .unset, .unset, .unset, .unset] [(.int (z8 - z23))]))) (fun t k => XS.isub X2.here hx rfl (hb hby at_71) rfl k) ?_
        obtain ⟨z72, hz72⟩ : ∃ z : Int32, z = (z8 - z23) := ⟨_, rfl⟩
        rw [← hz72]
        refine own_go (B := (T2.setTop (mkF m 74 #[iv p0, iv p1, iv p2, iv p3, iv z8, iv z23, iv z28, iv z72, .unset, .unset, .unset, .unset, .unset, .unset, .unset, .unset] []))) (fun t k => XS.istore X2.here hx rfl (hb hby at_72) rfl (l' := #[iv p0, iv p1, iv p2, iv p3, iv z8, iv z23, iv z28, iv z72, .unset, .unset, .unset, .unset, .unset, .unset, .unset, .unset]) rfl k) ?_
        exact J74 _ (own_f3 hz8 hz23 hz72)
      · refine own_go (B := (T2.setTop (mkF m 62 #[iv p0, iv p1, iv p2, iv p3, iv z8, iv z23, iv z28, .unset, .unset, .unset, .unset, .unset, .unset, .unset, .unset, .unset] [(.int z23)]))) (fun t k => XS.iload X2.here hx rfl (hb hby at_60) rfl k) ?_
        refine own_go (B := (T2.setTop (mkF m 64 #[iv p0, iv p1, iv p2, iv p3, iv z8, iv z23, iv z28, iv z23, .unset, .unset, .unset, .unset, .unset, .unset, .unset, .unset] []))) (fun t k => XS.istore X2.here hx rfl (hb hby at_62) rfl (l' := #[iv p0, iv p1, iv p2, iv p3, iv z8, iv z23, iv z28, iv z23, .unset, .unset, .unset, .unset, .unset, .unset, .unset, .unset]) rfl k) ?_
        refine own_go (B := (T2.setTop (mkF m 74 #[iv p0, iv p1, iv p2, iv p3, iv z8, iv z23, iv z28, iv z23, .unset, .unset, .unset, .unset, .unset, .unset, .unset, .unset] []))) (fun t k => XS.goto X2.here hx rfl (pc0 := 64) (pc' := 74) rfl (hb hby at_64) (by decide) (by decide) k) ?_
        exact J74 _ (own_f2 hz8 hz23)
    · refine own_go (B := (T2.setTop (mkF m 49 #[iv p0, iv p1, iv p2, iv p3, iv z8, iv z23, iv z28, .unset, .unset, .unset, .unset, .unset, .unset, .unset, .unset, .unset] [(.int z8)]))) (fun t k => XS.iload X2.here hx rfl (hb hby at_47) rfl k) ?_
      refine own_go (B := (T2.setTop (mkF m 51 #[iv p0, iv p1, iv p2, iv p3, iv z8, iv z23, iv z28, iv z8, .unset, .unset, .unset, .unset, .unset, .unset, .unset, .unset] []))) (fun t k => XS.istore X2.here hx rfl (hb hby at_49) rfl (l' := #[iv p0, iv p1, iv p2, iv p3, iv z8, iv z23, iv z28, iv z8, .unset, .unset, .unset, .unset, .unset, .unset, .unset, .unset]) rfl k) ?_
      refine own_go (B := (T2.setTop (mkF m 74 #[iv p0, iv p1, iv p2, iv p3, iv z8, iv z23, iv z28, iv z8, .unset, .unset, .unset, .unset, .unset, .unset, .unset, .unset] []))) (fun t k => XS.goto X2.here hx rfl (pc0 := 51) (pc' := 74) rfl (hb hby at_51) (by decide) (by decide) k) ?_
      exact J74 _ (own_f1 hz8)
  · refine own_go (B := (T2.setTop (mkF m 36 #[iv p0, iv p1, iv p2, iv p3, iv z8, iv z23, iv z28, .unset, .unset, .unset, .unset, .unset, .unset, .unset, .unset, .unset] [(.int (0 : Int32))]))) (fun t k => XS.iconst X2.here hx rfl (hb hby at_35) k) ?_
    refine own_go (B := (T2.setTop (mkF m 38 #[iv p0, iv p1, iv p2, iv p3, iv z8, iv z23, iv z28, iv (0 : Int32), .unset, .unset, .unset, .unset, .unset, .unset, .unset, .unset] []))) (fun t k => XS.istore X2.here hx rfl (hb hby at_36) rfl (l' := #[iv p0, iv p1, iv p2, iv p3, iv z8, iv z23, iv z28, iv (0 : Int32), .unset, .unset, .unset, .unset, .unset, .unset, .unset, .unset]) rfl k) ?_
    refine own_go (B := (T2.setTop (mkF m 74 #[iv p0, iv p1, iv p2, iv p3, iv z8, iv z23, iv z28, iv (0 : Int32), .unset, .unset, .unset, .unset, .unset, .unset, .unset, .unset] []))) (fun t k => XS.goto X2.here hx rfl (pc0 := 38) (pc' := 74) rfl (hb hby at_38) (by decide) (by decide) k) ?_
    exact J74 _ (own_f0 hz8)

set_option maxRecDepth 65536 in
set_option maxHeartbeats 40000000 in
theorem own_comes {Post : Tables → Env → Array Value → State → Outcome → State → Prop} (hpost : ∀ tb e args s v u, (limb_1_1.after args s (.returned v) u = true ∧ limb_1_2.after args s (.returned v) u = true ∧ True) → FrameEnd s (.returned v) u (Jvm.fieldLocs frame_1_writes args s ++ Jvm.arrayLocs frame_1_arrays args s ++ Jvm.staticLocs frame_1_statics s) 16 128 → Post tb e args s (.returned v) u) :
    ArmFor flags0 classFile x code maxLocals ret World_1 tables_1 room_1 Calls_1 rest_1 Pre_1 Post := by
  intro l hfl _ _ p e ha hc hk s m args below hf hA hF happ hP
  obtain ⟨hcalls, hrest, hpre⟩ := hP
  obtain ⟨-, -, -, hnamed, -, -, -, hat⟩ := (Spec.applies_iff hf).mp happ
  obtain ⟨hg, hn⟩ := and_e (Cond.before_iff.mp (show (Jvm.Cond.and given_1 narrow_1).before args s = true from hpre))
  obtain ⟨g0, r0⟩ := and_e hg
  obtain ⟨g1, r1⟩ := and_e r0
  obtain ⟨g2, r2⟩ := and_e r1
  obtain ⟨g3, r3⟩ := and_e r2
  obtain ⟨w0, w1, w2, w3, rfl⟩ : ∃ w0 w1 w2 w3 : Value, args = #[w0, w1, w2, w3] := by
    have hs : args.size = 4 := by simpa [Cond.value, given_1] using g0
    obtain ⟨L⟩ := args
    match L, hs with
    | [w0, w1, w2, w3], _ => exact ⟨w0, w1, w2, w3, rfl⟩
  have hw := fun d (hd : d ∈ tables_1) => atoms_spec (ws := Jvm.Cond.code x code maxLocals ret :: tables_1) hat d (List.mem_cons_of_mem _ hd)
  have hfit : Fit s := fun {y c} hc i hi => by
    obtain ⟨ha, rfl⟩ := Array.getElem?_eq_some_iff.mp hc
    have q := List.all_eq_true.mp ((Array.all_eq_true_iff_forall_mem.mp hF) _ (Array.getElem_mem ha)) i (List.mem_range.mpr hi)
    simpa [Array.getElem?_eq_getElem hi] using q
  obtain ⟨i0, e0⟩ := is_v g1
  obtain rfl : w0 = (.int i0) := Option.some.inj e0
  obtain ⟨i1, e1⟩ := is_v g2
  obtain rfl : w1 = (.int i1) := Option.some.inj e1
  obtain ⟨i2, e2⟩ := is_v g3
  obtain rfl : w2 = (.int i2) := Option.some.inj e2
  obtain ⟨i3, e3⟩ := is_v r3
  obtain rfl : w3 = (.int i3) := Option.some.inj e3
  obtain ⟨n, o, h1, h2, h3, _, L, rfl, ⟨rfl, N⟩, hq⟩ := own_law l s _ hw tables_1 i0 i1 i2 i3 s.heap s.heap.size (Nat.le_refl _) p e ha hc hk s m _ below hf ((Spec.applies_iff_loose hf).mp happ).1 ⟨rfl, State.Warmed39.refl s, rfl⟩ trivial
  refine ⟨n, _, h1, h2, h3, hpost _ _ _ _ _ _ ⟨Cond.after_iff.mpr rfl, Cond.after_iff.mpr (eq_i res_at (Term.int_eval (1)) rfl), trivial⟩ ⟨hq.1, hq.2.1, (hq.2.2.sift fun y hy => Or.inr (N y hy)).mono (by decide) (by decide)⟩⟩
theorem main_1_1 : Claimed_1_1 := own_comes fun _ _ _ _ _ _ h hF => ⟨h.1, hF⟩
theorem main_1_2 : Claimed_1_2 := own_comes fun _ _ _ _ _ _ h hF => ⟨h.2.1, hF⟩
end Jvm.Pilot.@@N@@
namespace Jvm.Pilot.@@N@@
open Jvm Jvm.ClassFile Sem Op Lib Jvm.Free Jvm.Stand Jvm.Pilot.@@N@@.Jvm.D
/-! MADE BY PROGRAM (witnessworld.py) out of the Statement's table words and the real class files: 11 classes; the members and pool entries that the words name. The judged class is class 1, her method 1. -/
namespace start1
open Jvm.ClassFile
def u (s : String) : CpInfo := .utf8 (stringToUtf16 s)
/-- a pool by its gaps: so many unusable entries, then the entry; so many at the end -/
def gap : Nat → List CpInfo → List CpInfo
  | 0, r => r
  | n + 1, r => .unusable :: gap n r
def poolList (es : List (Nat × CpInfo)) (last : Nat) : List CpInfo := es.foldr (fun e r => gap e.1 (e.2 :: r)) (gap last [])
def pool (es : List (Nat × CpInfo)) (last : Nat) : Array CpInfo := ⟨poolList es last⟩
def fileOf (pool : Array CpInfo) (this : Nat) (attrs : Array Attribute := #[]) (ms : Array MethodInfo := #[]) (fl : Nat := 33) (sup : Nat := 0) (ifs : Array Nat := #[]) (fds : Array FieldInfo := #[]) : ClassFile where
  minorVersion := 0
  majorVersion := 65
  constantPool := pool
  accessFlags := fl
  thisClass := this
  superClass := sup
  interfaces := ifs
  fields := fds
  methods := ms
  attributes := attrs
def plain (name : String) (sup : Option ClassId) : Class where
  name := name
  kind := .ordinary
  loader := none
  accessFlags := 33
  super := sup
  interfaces := #[]
  cf := none
  fields := #[]
  methods := #[]
  instanceTypes := #[]
  staticTypes := #[]
  resolved := #[]
  callSites := []
  init := .initialized
  statics := none
  mirror := none

def pool0 : Array CpInfo := pool [(5, u "<init>"), (0, u "()V"), (1, .class_ 10), (1, u "java/lang/Object")] 113

def k0c0 : Code := { maxStack := 0, maxLocals := 1, code := object_method_1_code, exceptionTable := #[], attributes := #[] }
def k0m0 : Method := { name := "<init>", desc := "()V", sig := { parameters := [], returnType := none }, accessFlags := 1, code := some k0c0 }
/-- java/lang/Object -/
def k0 : Class := { plain "java/lang/Object" none with
  accessFlags := 33
  interfaces := #[]
  cf := some (fileOf pool0 8 #[] #[{ accessFlags := 1, nameIndex := 5, descriptorIndex := 6, attributes := #[] }] 33 0 #[] #[])
  fields := #[]
  methods := #[k0m0]
  instanceTypes := #[]
  staticTypes := #[]
  resolved := Array.replicate 124 none
  statics := none }

def pool1 : Array CpInfo := pool [(2, .class_ 4), (1, u "java/lang/Object"), (0, u "<init>"), (0, u "()V"), (0, .integer 2147483647), (0, .methodref 9 10), (0, .class_ 11), (0, .nameAndType 12 13), (0, u "java/lang/Math"), (0, u "max"), (0, u "(II)I"), (0, .long 2147483647), (1, .class_ 17), (0, u "com/example/pagemason/pagemason/buffer/ChunkMetric"), (0, .methodref 16 19), (0, .nameAndType 5 20), (0, u "(III)V"), (0, .methodref 16 22), (0, .nameAndType 23 24), (0, u "usage"), (0, u "()I"), (0, .long 100), (1, .long 2), (1, .class_ 30), (0, u "com/example/pagemason/pagemason/buffer/ChunkMetricUsagePinLaw"), (2, u "law"), (0, u "(IIII)Z")] 3

def k1m0 : Method := { name := "<init>", desc := "()V", sig := { parameters := [], returnType := none }, accessFlags := 1, code := none }
def k1c1 : Code := { maxStack := 6, maxLocals := 16, code := code, exceptionTable := #[], attributes := #[] }
def k1m1 : Method := { name := "law", desc := "(IIII)Z", sig := { parameters := [.int, .int, .int, .int], returnType := some .boolean }, accessFlags := 9, code := some k1c1 }
/-- com/example/pagemason/pagemason/buffer/ChunkMetricUsagePinLaw -/
def k1 : Class := { plain "com/example/pagemason/pagemason/buffer/ChunkMetricUsagePinLaw" (some 0) with
  accessFlags := 49
  interfaces := #[]
  cf := some (fileOf pool1 29 #[] #[{ accessFlags := 1, nameIndex := 5, descriptorIndex := 6, attributes := #[] }, { accessFlags := 9, nameIndex := 33, descriptorIndex := 34, attributes := #[] }] 49 2 #[] #[])
  fields := #[]
  methods := #[k1m0, k1m1]
  instanceTypes := #[]
  staticTypes := #[]
  resolved := Array.replicate 38 none
  statics := none }

def pool2 : Array CpInfo := pool [(1, .class_ 2), (0, u "java/lang/Math"), (1, .class_ 6), (1, u "java/lang/Object"), (0, u "<init>"), (0, u "()V"), (89, .class_ 100), (1, u "java/lang/Math$RandomNumberGeneratorHolder"), (71, u "negativeZeroFloatBits"), (0, u "J"), (2, u "negativeZeroDoubleBits"), (21, u "max"), (46, u "$assertionsDisabled"), (0, u "Z"), (88, u "(II)I"), (2, u "twoToTheDoubleScaleDown"), (0, u "D"), (4, u "twoToTheDoubleScaleUp"), (9, u "E"), (3, u "PI"), (2, u "TAU"), (2, u "DEGREES_TO_RADIANS"), (0, u "RADIANS_TO_DEGREES")] 94

def k2m0 : Method := { name := "<init>", desc := "()V", sig := { parameters := [], returnType := none }, accessFlags := 2, code := none }
def k2c1 : Code := { maxStack := 2, maxLocals := 2, code := jdk_29_method_65_code, exceptionTable := #[], attributes := #[] }
def k2m1 : Method := { name := "max", desc := "(II)I", sig := { parameters := [.int, .int], returnType := some .int }, accessFlags := 9, code := some k2c1 }
/-- java/lang/Math -/
def k2 : Class := { plain "java/lang/Math" (some 0) with
  accessFlags := 49
  interfaces := #[]
  cf := some (fileOf pool2 1 #[.nestMembers #[98]] #[{ accessFlags := 2, nameIndex := 7, descriptorIndex := 8, attributes := #[] }, { accessFlags := 9, nameIndex := 198, descriptorIndex := 335, attributes := #[] }] 49 4 #[] #[{ accessFlags := 25, nameIndex := 354, descriptorIndex := 339, attributes := #[] }, { accessFlags := 25, nameIndex := 358, descriptorIndex := 339, attributes := #[] }, { accessFlags := 25, nameIndex := 361, descriptorIndex := 339, attributes := #[] }, { accessFlags := 26, nameIndex := 364, descriptorIndex := 339, attributes := #[] }, { accessFlags := 26, nameIndex := 365, descriptorIndex := 339, attributes := #[] }, { accessFlags := 26, nameIndex := 172, descriptorIndex := 173, attributes := #[] }, { accessFlags := 26, nameIndex := 176, descriptorIndex := 173, attributes := #[] }, { accessFlags := 8, nameIndex := 344, descriptorIndex := 339, attributes := #[] }, { accessFlags := 8, nameIndex := 338, descriptorIndex := 339, attributes := #[] }, { accessFlags := 4120, nameIndex := 245, descriptorIndex := 246, attributes := #[] }])
  fields := #[{ name := "E", type := .double, accessFlags := 25, slot := 0, constantValue := 0 }, { name := "PI", type := .double, accessFlags := 25, slot := 1, constantValue := 0 }, { name := "TAU", type := .double, accessFlags := 25, slot := 2, constantValue := 0 }, { name := "DEGREES_TO_RADIANS", type := .double, accessFlags := 26, slot := 3, constantValue := 0 }, { name := "RADIANS_TO_DEGREES", type := .double, accessFlags := 26, slot := 4, constantValue := 0 }, { name := "negativeZeroFloatBits", type := .long, accessFlags := 26, slot := 5, constantValue := 0 }, { name := "negativeZeroDoubleBits", type := .long, accessFlags := 26, slot := 6, constantValue := 0 }, { name := "twoToTheDoubleScaleUp", type := .double, accessFlags := 8, slot := 7, constantValue := 0 }, { name := "twoToTheDoubleScaleDown", type := .double, accessFlags := 8, slot := 8, constantValue := 0 }, { name := "$assertionsDisabled", type := .boolean, accessFlags := 4120, slot := 9, constantValue := 0 }]
  methods := #[k2m0, k2m1]
  instanceTypes := #[]
  staticTypes := #[.double, .double, .double, .double, .double, .long, .long, .double, .double, .boolean]
  resolved := Array.replicate 460 none
  statics := none }

def pool3 : Array CpInfo := pool [(1, .methodref 2 3), (0, .class_ 4), (0, .nameAndType 5 6), (0, u "java/lang/Object"), (0, u "<init>"), (0, u "()V"), (0, .class_ 8), (0, u "java/lang/Record")] 13

def k3c0 : Code := { maxStack := 1, maxLocals := 1, code := jdk_30_method_1_code, exceptionTable := #[], attributes := #[] }
def k3m0 : Method := { name := "<init>", desc := "()V", sig := { parameters := [], returnType := none }, accessFlags := 4, code := some k3c0 }
/-- java/lang/Record -/
def k3 : Class := { plain "java/lang/Record" (some 0) with
  accessFlags := 1057
  interfaces := #[]
  cf := some (fileOf pool3 7 #[] #[{ accessFlags := 4, nameIndex := 5, descriptorIndex := 6, attributes := #[] }] 1057 2 #[] #[])
  fields := #[]
  methods := #[k3m0]
  instanceTypes := #[]
  staticTypes := #[]
  resolved := Array.replicate 22 none
  statics := none }

def pool4 : Array CpInfo := pool [(1, .methodref 2 3), (0, .class_ 4), (0, .nameAndType 5 6), (0, u "java/lang/Record"), (0, u "<init>"), (0, u "()V"), (0, .fieldref 8 9), (0, .class_ 10), (0, .nameAndType 11 12), (0, u "com/example/pagemason/pagemason/buffer/ChunkMetric"), (0, u "id"), (0, u "I"), (0, .fieldref 8 14), (0, .nameAndType 15 12), (0, u "size"), (0, .fieldref 8 17), (0, .nameAndType 18 12), (0, u "freeBytes"), (0, .long 100), (13, u "(III)V"), (3, u "usage"), (0, u "()I")] 25

def k4c0 : Code := { maxStack := 2, maxLocals := 4, code := prog_6_method_1_code, exceptionTable := #[], attributes := #[] }
def k4m0 : Method := { name := "<init>", desc := "(III)V", sig := { parameters := [.int, .int, .int], returnType := none }, accessFlags := 1, code := some k4c0 }
def k4c1 : Code := { maxStack := 4, maxLocals := 2, code := prog_6_method_2_code, exceptionTable := #[], attributes := #[] }
def k4m1 : Method := { name := "usage", desc := "()I", sig := { parameters := [], returnType := some .int }, accessFlags := 1, code := some k4c1 }
/-- com/example/pagemason/pagemason/buffer/ChunkMetric -/
def k4 : Class := { plain "com/example/pagemason/pagemason/buffer/ChunkMetric" (some 3) with
  accessFlags := 49
  interfaces := #[]
  cf := some (fileOf pool4 8 #[] #[{ accessFlags := 1, nameIndex := 5, descriptorIndex := 33, attributes := #[] }, { accessFlags := 1, nameIndex := 37, descriptorIndex := 38, attributes := #[] }] 49 2 #[] #[{ accessFlags := 18, nameIndex := 11, descriptorIndex := 12, attributes := #[] }, { accessFlags := 18, nameIndex := 15, descriptorIndex := 12, attributes := #[] }, { accessFlags := 18, nameIndex := 18, descriptorIndex := 12, attributes := #[] }])
  fields := #[{ name := "id", type := .int, accessFlags := 18, slot := 0, constantValue := 0 }, { name := "size", type := .int, accessFlags := 18, slot := 1, constantValue := 0 }, { name := "freeBytes", type := .int, accessFlags := 18, slot := 2, constantValue := 0 }]
  methods := #[k4m0, k4m1]
  instanceTypes := #[.int, .int, .int]
  staticTypes := #[]
  resolved := Array.replicate 64 none
  statics := none }

def pool5 : Array CpInfo := pool [(1, u "java/lang/Cloneable"), (0, .class_ 1), (0, u "java/lang/Object"), (0, .class_ 3)] 3

/-- java/lang/Cloneable -/
def k5 : Class := { plain "java/lang/Cloneable" (some 0) with
  accessFlags := 1537
  interfaces := #[]
  cf := some (fileOf pool5 2 #[] #[] 1537 4 #[] #[])
  fields := #[]
  methods := #[]
  instanceTypes := #[]
  staticTypes := #[]
  resolved := Array.replicate 8 none
  statics := none }

def pool6 : Array CpInfo := pool [(1, u "java/io/Serializable"), (0, .class_ 1), (0, u "java/lang/Object"), (0, .class_ 3)] 3

/-- java/io/Serializable -/
def k6 : Class := { plain "java/io/Serializable" (some 0) with
  accessFlags := 1537
  interfaces := #[]
  cf := some (fileOf pool6 2 #[] #[] 1537 4 #[] #[])
  fields := #[]
  methods := #[]
  instanceTypes := #[]
  staticTypes := #[]
  resolved := Array.replicate 8 none
  statics := none }

/-- the primitive byte -/
def k7 : Class := { plain "byte" none with kind := .primitive 'B', accessFlags := 0x411 }
/-- [B -/
def k8 : Class := { plain "[B" (some 0) with kind := .array 7 .byte, interfaces := #[5, 6], accessFlags := 1041 }

/-- the primitive int -/
def k9 : Class := { plain "int" none with kind := .primitive 'I', accessFlags := 0x411 }
/-- [I -/
def k10 : Class := { plain "[I" (some 0) with kind := .array 9 .int, interfaces := #[5, 6], accessFlags := 1041 }

def heap : Heap := #[]
def classes : Array Class := #[k0, k1, k2, k3, k4, k5, k6, k7, k8, k9, k10]
def interned : List (Array UInt16 × Addr) := []
def slotsUsed : Nat := 0
def theMethod : MethodId := ⟨1, 1⟩
def args0 : Array Value := #[.int 5, .int 300, .int 7, .int 0]
def aboutOver (below : List Frame) : State where
  vm := { classes := classes, interned := interned.toArray }
  heap := heap
  slotsUsed := slotsUsed
  threads := #[{ frames := .invoking theMethod args0 :: below }]
def below0 : List Frame := [.native { method := ⟨0, 0⟩, args := #[] }]
def about1 : State := aboutOver below0
def p0 : Program := .bare "" "" ""
def e0 : Env := launch0.env 0 0 0
theorem w_frames : about1.frames = Frame.invoking theMethod args0 :: below0 := rfl
set_option maxRecDepth 65536 in
theorem w_args : argsFit about1.vm theMethod args0 = true := by decide +kernel
set_option maxRecDepth 65536 in
theorem w_heap : heapFits about1 = true := by decide +kernel
set_option maxRecDepth 65536 in
theorem w_runnable : about1.curStatus? = some .runnable := by decide +kernel
set_option maxRecDepth 65536 in
theorem w_alone : about1.alone = true := by decide +kernel
set_option maxRecDepth 65536 in
theorem w_named : about1.methodNamed? x = some theMethod := by decide +kernel
set_option maxRecDepth 65536 in
theorem w_hears : about1.hears theMethod below0 = true := by decide +kernel
set_option maxRecDepth 65536 in
theorem w_ripe : about1.ripe theMethod args0 below0 = true := by decide +kernel
theorem w_running : about1.status = .running := rfl
set_option maxRecDepth 65536 in
theorem w_room : about1.hasRoom e0.platform room_1 = true :=
  launch0.hasRoom_least _ room_1 (by decide +kernel) (by decide +kernel) (by decide +kernel) (by decide +kernel) (by decide +kernel) (by decide +kernel)
theorem allAtoms_all (ts : List Jvm.Cond) (a : Array Jvm.Value) (st : Jvm.State) : (allAtoms ts).before a st = ts.all (fun c => c.before a st) := by
  induction ts with
  | nil => rfl
  | cons c t ih =>
    show (Jvm.Cond.and c (allAtoms t)).before a st = _
    rw [Jvm.Cond.before_and, ih, List.all_cons]
def words1 : List Jvm.Cond := Jvm.Cond.code x code maxLocals ret :: tables_1
/-- a 'code' word, met by the world's own term for the bytes: nothing is compared byte by byte -/
theorem code_word {y : MethodName} {bytes : ByteArray} {mx : Nat} {rt : Option FieldType} {a : Array Value} {s : State} {m : MethodId} {meth : Method} {c : Code} (h1 : s.methodNamed? y = some m) (h2 : s.vm.method? m = some meth) (h3 : meth.code = some c) (h4 : c.code = bytes)
    (h5 : (c.maxLocals == mx && c.exceptionTable.isEmpty && decide (c.maxStack ≤ mostOperands) && decide (meth.sig.returnType = rt) && !meth.locks && decide (parseMethodDescriptor y.desc = some meth.sig)) = true) : (Jvm.Cond.code y bytes mx rt).before a s = true := by
  simp only [Bool.and_eq_true, beq_iff_eq, Bool.not_eq_true', decide_eq_true_eq] at h5
  obtain ⟨⟨⟨⟨⟨g1, g2⟩, g3⟩, g4⟩, g5⟩, g6⟩ := h5
  simp [Cond.before, Cond.holds, Cond.value, h1, h2, h3, h4, g1, g2, g3, g4, g5, g6]
def isCode : Jvm.Cond → Bool
  | .code _ _ _ _ => true
  | _ => false
theorem all_split {L : List Jvm.Cond} {P : Jvm.Cond → Bool} (h1 : L.all (fun c => isCode c || P c) = true) (h2 : ∀ c ∈ L.filter isCode, P c = true) : L.all P = true := by
  refine List.all_eq_true.mpr fun c hc => ?_
  have h := List.all_eq_true.mp h1 c hc
  rcases Bool.eq_false_or_eq_true (isCode c) with hi | hi
  · exact h2 c (List.mem_filter.mpr ⟨hc, hi⟩)
  · simpa [hi] using h
set_option maxRecDepth 65536 in
theorem w_c0 : (Jvm.Cond.code x code maxLocals ret).before args0 about1 = true := code_word (m := ⟨1, 1⟩) (meth := k1m1) (c := k1c1) (by decide +kernel) rfl rfl rfl (by decide +kernel)
set_option maxRecDepth 65536 in
theorem w_c1 : (Jvm.Cond.code ({ cls := "java/lang/Math", name := "max", desc := "(II)I" } : Jvm.MethodName) jdk_29_method_65_code (2 : Nat) (Option.some Jvm.ClassFile.FieldType.int)).before args0 about1 = true := code_word (m := ⟨2, 1⟩) (meth := k2m1) (c := k2c1) (by decide +kernel) rfl rfl rfl (by decide +kernel)
set_option maxRecDepth 65536 in
theorem w_c2 : (Jvm.Cond.code ({ cls := "com/example/pagemason/pagemason/buffer/ChunkMetric", name := "<init>", desc := "(III)V" } : Jvm.MethodName) prog_6_method_1_code (4 : Nat) (Option.none : Option Jvm.ClassFile.FieldType)).before args0 about1 = true := code_word (m := ⟨4, 0⟩) (meth := k4m0) (c := k4c0) (by decide +kernel) rfl rfl rfl (by decide +kernel)
set_option maxRecDepth 65536 in
theorem w_c3 : (Jvm.Cond.code ({ cls := "java/lang/Record", name := "<init>", desc := "()V" } : Jvm.MethodName) jdk_30_method_1_code (1 : Nat) (Option.none : Option Jvm.ClassFile.FieldType)).before args0 about1 = true := code_word (m := ⟨3, 0⟩) (meth := k3m0) (c := k3c0) (by decide +kernel) rfl rfl rfl (by decide +kernel)
set_option maxRecDepth 65536 in
theorem w_c4 : (Jvm.Cond.code ({ cls := "java/lang/Object", name := "<init>", desc := "()V" } : Jvm.MethodName) object_method_1_code (1 : Nat) (Option.none : Option Jvm.ClassFile.FieldType)).before args0 about1 = true := code_word (m := ⟨0, 0⟩) (meth := k0m0) (c := k0c0) (by decide +kernel) rfl rfl rfl (by decide +kernel)
set_option maxRecDepth 65536 in
theorem w_c5 : (Jvm.Cond.code ({ cls := "com/example/pagemason/pagemason/buffer/ChunkMetric", name := "usage", desc := "()I" } : Jvm.MethodName) prog_6_method_2_code (2 : Nat) (Option.some Jvm.ClassFile.FieldType.int)).before args0 about1 = true := code_word (m := ⟨4, 1⟩) (meth := k4m1) (c := k4c1) (by decide +kernel) rfl rfl rfl (by decide +kernel)
def codes1 : List Jvm.Cond := [Jvm.Cond.code x code maxLocals ret, Jvm.Cond.code ({ cls := "java/lang/Math", name := "max", desc := "(II)I" } : Jvm.MethodName) jdk_29_method_65_code (2 : Nat) (Option.some Jvm.ClassFile.FieldType.int), Jvm.Cond.code ({ cls := "com/example/pagemason/pagemason/buffer/ChunkMetric", name := "<init>", desc := "(III)V" } : Jvm.MethodName) prog_6_method_1_code (4 : Nat) (Option.none : Option Jvm.ClassFile.FieldType), Jvm.Cond.code ({ cls := "java/lang/Record", name := "<init>", desc := "()V" } : Jvm.MethodName) jdk_30_method_1_code (1 : Nat) (Option.none : Option Jvm.ClassFile.FieldType), Jvm.Cond.code ({ cls := "java/lang/Object", name := "<init>", desc := "()V" } : Jvm.MethodName) object_method_1_code (1 : Nat) (Option.none : Option Jvm.ClassFile.FieldType), Jvm.Cond.code ({ cls := "com/example/pagemason/pagemason/buffer/ChunkMetric", name := "usage", desc := "()I" } : Jvm.MethodName) prog_6_method_2_code (2 : Nat) (Option.some Jvm.ClassFile.FieldType.int)]
set_option maxRecDepth 65536 in
theorem codes_eq : words1.filter isCode = codes1 := rfl
theorem w_codes : ∀ c ∈ words1.filter isCode, c.before args0 about1 = true := by
  rw [codes_eq]
  intro c hc
  simp only [codes1, List.mem_cons, List.not_mem_nil, or_false] at hc
  rcases hc with rfl | rfl | rfl | rfl | rfl | rfl
  · exact w_c0
  · exact w_c1
  · exact w_c2
  · exact w_c3
  · exact w_c4
  · exact w_c5
set_option maxRecDepth 65536 in
theorem w_t1 : (words1.take 24).all (fun c => isCode c || c.before args0 about1) = true := by decide +kernel
set_option maxRecDepth 65536 in
theorem w_t2 : (words1.drop 24).all (fun c => isCode c || c.before args0 about1) = true := by decide +kernel
theorem w_tables : (allAtoms (Jvm.Cond.code x code maxLocals ret :: tables_1)).before args0 about1 = true := by
  rw [allAtoms_all]
  show words1.all (fun c => c.before args0 about1) = true
  refine all_split ?_ w_codes
  rw [← List.take_append_drop 24 words1, List.all_append, w_t1, w_t2]
  rfl
set_option maxRecDepth 65536 in
theorem w_case : (Jvm.Cond.and given_1 narrow_1).before args0 about1 = true := by decide +kernel
theorem w_applies : (headSpec (Jvm.Cond.code x code maxLocals ret :: tables_1) room_1).applies x e0.platform about1 = true :=
  (Spec.applies_iff w_frames).mpr ⟨w_running, w_runnable, w_alone, w_named, w_hears, w_ripe, w_room, w_tables⟩
theorem atStart : AtStart classFile x code maxLocals ret World_1 tables_1 room_1 Calls_1 rest_1 Pre_1 launch0 p0 e0 about1 theMethod args0 below0 :=
  ⟨lists_1, trivial, launch0.admits_env _ _ _, launch0.least_env, fairChoices_fair.cas, fairChoices_fair.clock, w_frames, w_args, w_heap, w_applies, trivial, trivial, w_case⟩
end start1
theorem witness_1 : WitnessClaimed_1 := ⟨start1.p0, start1.e0, start1.about1, start1.theMethod, start1.args0, start1.below0, start1.atStart⟩
end Jvm.Pilot.@@N@@
