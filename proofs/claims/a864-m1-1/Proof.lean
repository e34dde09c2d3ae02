import JvmDerived
import JvmDerived.Pilot.@@N@@Statement
import JvmDerived.Pilot.@@N@@Code
set_option linter.unusedVariables false
set_option linter.unusedSimpArgs false
set_option maxRecDepth 65536
namespace Jvm.Pilot.@@N@@
open Jvm Jvm.ClassFile Sem Op Lib Jvm.Free Jvm.Stand Jvm.LawKit Jvm.RoadKit Bundle Jvm.Pilot.@@N@@.Jvm.D
section OwnKit
variable {p : Program} {l : Launch} {e : Env} {R : Room} {s : State} {m : MethodId} {args : Array Value} {below : List Frame} {meth : Method} {c : Code} {T : State} {locs : List Loc} {cells slots : Nat}
theorem own_retI (X : Stand p l e R s m args below meth c T locs cells slots) (hx : p.tables.exec = Jvm.exec) {pc : Nat} {Ls : Array Slot} {z : Int32} {rest : List Value} (hret : meth.sig.returnType = some .int) (hd : decode c.code pc = .ok (.ireturn, 1)) {fs : List Frame}
    (hl : ∀ (f : JFrame) (acts : List Action), f.method = m → f.locked = none → f.entered = [] → (doReturn e (T.setTop f) acts (some (.int z))).1 = T.setFrames fs) : Steps p.tables e below (T.setTop (mkF m pc Ls (.int z :: rest))) (T.setFrames fs) := by
  have hm' : T.vm.method? m = some meth := X.method'
  have hn : narrow .int (.int z) = .int z := rfl
  show Steps p.tables e below (T.setTop { method := m, pc := pc, locals := Ls, stack := _ :: rest, locked := none }) _
  jvm_step X.here [X.here.top, hx, hd, hm', hret, hn]
  first | (intro acts; rw [hl _ acts rfl rfl rfl]) | rw [hl _ _ rfl rfl rfl]
  exact Steps.refl _
/-- where the run stands, with the same writes and figures as at X -/
abbrev own_like (_ : Stand p l e R s m args below meth c T locs cells slots) (T' : State) : Prop := Stand p l e R s m args below meth c T' locs cells slots
end OwnKit
theorem own_Llt {a b : Int64} (h : a < b) : ifCond.holds .lt (lcmpW a b) = true ∧ ifCond.holds .ge (lcmpW a b) = false ∧ ifCond.holds .gt (lcmpW b a) = true ∧ ifCond.holds .le (lcmpW b a) = false := by
  simp only [if0]
  exact ⟨(tlt ((lw_lt a b).mpr h)).1, (tlt ((lw_lt a b).mpr h)).2.1, (tlt ((lw_gt b a).mpr h)).2.2.1, (tlt ((lw_gt b a).mpr h)).2.2.2⟩
theorem own_Lnl {a b : Int64} (h : ¬ a < b) : ifCond.holds .lt (lcmpW a b) = false ∧ ifCond.holds .ge (lcmpW a b) = true ∧ ifCond.holds .gt (lcmpW b a) = false ∧ ifCond.holds .le (lcmpW b a) = true := by
  simp only [if0]
  have h1 : ¬ lcmpW a b < 0 := fun q => h ((lw_lt a b).mp q)
  have h2 : ¬ 0 < lcmpW b a := fun q => h ((lw_gt b a).mp q)
  exact ⟨(flt h1).1, (flt h1).2.1, (flt h2).2.2.1, (flt h2).2.2.2⟩
theorem own_Leq {a b : Int64} (h : a = b) : ifCond.holds .eq (lcmpW a b) = true ∧ ifCond.holds .ne (lcmpW a b) = false := by
  simp only [if0]
  exact teq ((lw_eq a b).mpr h)
theorem own_Lne {a b : Int64} (h : ¬ a = b) : ifCond.holds .eq (lcmpW a b) = false ∧ ifCond.holds .ne (lcmpW a b) = true := by
  simp only [if0]
  exact feq fun q => h ((lw_eq a b).mp q)
theorem own_StaK {Z : State} {h h' : Heap} {C n d : String} {v : Value} {ws : List Addr} (F : Sta Z h C n d v) (K : Keep h h' ws) (q : ∀ x ∈ ws, ∃ c : Cell, h[x]? = some c ∧ c.vm.isStatics = false) : Sta Z h' C n d v := by
  obtain ⟨cf, i, k, f, st, cell, h1, h2, h3, h4, h5, h6, h7⟩ := F
  refine ⟨cf, i, k, f, st, cell, h1, h2, h3, h4, K.2.1 st cell h5 (fun hm => ?_), h6, h7⟩
  obtain ⟨c, e1, e2⟩ := q _ hm
  rw [h5] at e1
  cases e1
  rw [h6] at e2
  cases e2
theorem own_ExaS {Z : State} {h : Heap} {a : Addr} {C : String} (E : Exa Z h a C) : ∃ c : Cell, h[a]? = some c ∧ c.vm.isStatics = false := by
  obtain ⟨c, k, e1, -, -, e2, -⟩ := E
  exact ⟨c, e1, e2⟩
/-- a boolean as the JVM's int -/
def own_b (b : Bool) : Int32 := if b then 1 else 0
theorem own_b_t : own_b true = 1 := rfl
theorem own_b_f : own_b false = 0 := rfl
theorem own_b0 {b : Bool} : own_b b = 0 ↔ b = false := by cases b <;> decide
theorem own_b_inj {b c : Bool} : own_b b = own_b c ↔ b = c := by cases b <;> cases c <;> decide
theorem own_leafT {b : Bool} (h : b = true) : (some (.int (nar .boolean (1 : Int32))) : Option Value) = some (.int (own_b b)) := by subst h; rfl
theorem own_leafF {b : Bool} (h : b = false) : (some (.int (nar .boolean (0 : Int32))) : Option Value) = some (.int (own_b b)) := by subst h; rfl
theorem own_bt {b : Bool} (h : b = true) : (1 : Int32) = own_b b := by subst h; rfl
theorem own_bf {b : Bool} (h : b = false) : (0 : Int32) = own_b b := by subst h; rfl
theorem own_b_nar (b : Bool) : nar .boolean (own_b b) = own_b b := by cases b <;> rfl
def own_pick (i : Int32) (st_INITIATION st_CONSECUTION st_BOUNDED st_DECREASE st_NON_INCREASE st_PHASE_DECREASE st_NO_ERROR st_REACHABLE st_RECURRENT : Addr) : Addr := if i = (0 : Int32) then st_INITIATION else if i = (1 : Int32) then st_CONSECUTION else if i = (2 : Int32) then st_BOUNDED else if i = (3 : Int32) then st_DECREASE else if i = (4 : Int32) then st_NON_INCREASE else if i = (5 : Int32) then st_PHASE_DECREASE else if i = (6 : Int32) then st_NO_ERROR else if i = (7 : Int32) then st_REACHABLE else st_RECURRENT
theorem own_pick_all {P : Addr → Prop} (i : Int32) (st_INITIATION st_CONSECUTION st_BOUNDED st_DECREASE st_NON_INCREASE st_PHASE_DECREASE st_NO_ERROR st_REACHABLE st_RECURRENT : Addr) (h0 : P st_INITIATION) (h1 : P st_CONSECUTION) (h2 : P st_BOUNDED) (h3 : P st_DECREASE) (h4 : P st_NON_INCREASE) (h5 : P st_PHASE_DECREASE) (h6 : P st_NO_ERROR) (h7 : P st_REACHABLE) (h8 : P st_RECURRENT) : P (own_pick i st_INITIATION st_CONSECUTION st_BOUNDED st_DECREASE st_NON_INCREASE st_PHASE_DECREASE st_NO_ERROR st_REACHABLE st_RECURRENT) := by
  unfold own_pick
  repeat' split
  all_goals assumption
theorem own_plain (i : Int32) (st_INITIATION st_CONSECUTION st_BOUNDED st_DECREASE st_NON_INCREASE st_PHASE_DECREASE st_NO_ERROR st_REACHABLE st_RECURRENT : Addr) (h0 : ¬ st_INITIATION = st_REACHABLE) (h1 : ¬ st_CONSECUTION = st_REACHABLE) (h2 : ¬ st_BOUNDED = st_REACHABLE) (h3 : ¬ st_DECREASE = st_REACHABLE) (h4 : ¬ st_NON_INCREASE = st_REACHABLE) (h5 : ¬ st_PHASE_DECREASE = st_REACHABLE) (h6 : ¬ st_NO_ERROR = st_REACHABLE) (h8 : ¬ st_RECURRENT = st_REACHABLE) : own_b (decide (own_pick i st_INITIATION st_CONSECUTION st_BOUNDED st_DECREASE st_NON_INCREASE st_PHASE_DECREASE st_NO_ERROR st_REACHABLE st_RECURRENT = st_REACHABLE)) = own_b (decide (i = (7 : Int32))) := by
  rw [own_b_inj, decide_eq_decide]
  by_cases h7 : i = (7 : Int32)
  · subst h7
    exact ⟨fun _ => rfl, fun _ => rfl⟩
  · refine ⟨fun q => absurd q ?_, fun q => absurd q h7⟩
    unfold own_pick
    rw [if_neg h7]
    repeat' split
    all_goals assumption
theorem own_d1_0 : decode method_2_code 0 = .ok (.iload_n 0, 1) := by decide +kernel
theorem own_d1_1 : decode method_2_code 1 = .ok (.ifCond .ne 7, 3) := by decide +kernel
theorem own_d1_4 : decode method_2_code 4 = .ok (.getstatic 7, 3) := by decide +kernel
theorem own_d1_7 : decode method_2_code 7 = .ok (.areturn, 1) := by decide +kernel
theorem own_d1_8 : decode method_2_code 8 = .ok (.iload_n 0, 1) := by decide +kernel
theorem own_d1_9 : decode method_2_code 9 = .ok (.iconst 1, 1) := by decide +kernel
theorem own_d1_10 : decode method_2_code 10 = .ok (.if_icmp .ne 7, 3) := by decide +kernel
theorem own_d1_13 : decode method_2_code 13 = .ok (.getstatic 13, 3) := by decide +kernel
theorem own_d1_16 : decode method_2_code 16 = .ok (.areturn, 1) := by decide +kernel
theorem own_d1_17 : decode method_2_code 17 = .ok (.iload_n 0, 1) := by decide +kernel
theorem own_d1_18 : decode method_2_code 18 = .ok (.iconst 2, 1) := by decide +kernel
theorem own_d1_19 : decode method_2_code 19 = .ok (.if_icmp .ne 7, 3) := by decide +kernel
theorem own_d1_22 : decode method_2_code 22 = .ok (.getstatic 16, 3) := by decide +kernel
theorem own_d1_25 : decode method_2_code 25 = .ok (.areturn, 1) := by decide +kernel
theorem own_d1_26 : decode method_2_code 26 = .ok (.iload_n 0, 1) := by decide +kernel
theorem own_d1_27 : decode method_2_code 27 = .ok (.iconst 3, 1) := by decide +kernel
theorem own_d1_28 : decode method_2_code 28 = .ok (.if_icmp .ne 7, 3) := by decide +kernel
theorem own_d1_31 : decode method_2_code 31 = .ok (.getstatic 19, 3) := by decide +kernel
theorem own_d1_34 : decode method_2_code 34 = .ok (.areturn, 1) := by decide +kernel
theorem own_d1_35 : decode method_2_code 35 = .ok (.iload_n 0, 1) := by decide +kernel
theorem own_d1_36 : decode method_2_code 36 = .ok (.iconst 4, 1) := by decide +kernel
theorem own_d1_37 : decode method_2_code 37 = .ok (.if_icmp .ne 7, 3) := by decide +kernel
theorem own_d1_40 : decode method_2_code 40 = .ok (.getstatic 22, 3) := by decide +kernel
theorem own_d1_43 : decode method_2_code 43 = .ok (.areturn, 1) := by decide +kernel
theorem own_d1_44 : decode method_2_code 44 = .ok (.iload_n 0, 1) := by decide +kernel
theorem own_d1_45 : decode method_2_code 45 = .ok (.iconst 5, 1) := by decide +kernel
theorem own_d1_46 : decode method_2_code 46 = .ok (.if_icmp .ne 7, 3) := by decide +kernel
theorem own_d1_49 : decode method_2_code 49 = .ok (.getstatic 25, 3) := by decide +kernel
theorem own_d1_52 : decode method_2_code 52 = .ok (.areturn, 1) := by decide +kernel
theorem own_d1_53 : decode method_2_code 53 = .ok (.iload_n 0, 1) := by decide +kernel
theorem own_d1_54 : decode method_2_code 54 = .ok (.bipush 6, 2) := by decide +kernel
theorem own_d1_56 : decode method_2_code 56 = .ok (.if_icmp .ne 7, 3) := by decide +kernel
theorem own_d1_59 : decode method_2_code 59 = .ok (.getstatic 28, 3) := by decide +kernel
theorem own_d1_62 : decode method_2_code 62 = .ok (.areturn, 1) := by decide +kernel
theorem own_d1_63 : decode method_2_code 63 = .ok (.iload_n 0, 1) := by decide +kernel
theorem own_d1_64 : decode method_2_code 64 = .ok (.bipush 7, 2) := by decide +kernel
theorem own_d1_66 : decode method_2_code 66 = .ok (.if_icmp .ne 7, 3) := by decide +kernel
theorem own_d1_69 : decode method_2_code 69 = .ok (.getstatic 31, 3) := by decide +kernel
theorem own_d1_72 : decode method_2_code 72 = .ok (.areturn, 1) := by decide +kernel
theorem own_d1_73 : decode method_2_code 73 = .ok (.getstatic 34, 3) := by decide +kernel
theorem own_d1_76 : decode method_2_code 76 = .ok (.areturn, 1) := by decide +kernel
theorem own_ef1 (m : MethodId) (x0 : Int32) : entryFrame m #[(.int x0)] 1 = mkF m 0 #[.val (.int x0)] [] := by first | (simp [entryFrame, mkF, argsToLocals, Value.category]; done) | rfl
def own_Q1 (Z : State) (i : Int32) (st_INITIATION : Addr) (st_CONSECUTION : Addr) (st_BOUNDED : Addr) (st_DECREASE : Addr) (st_NON_INCREASE : Addr) (st_PHASE_DECREASE : Addr) (st_NO_ERROR : Addr) (st_REACHABLE : Addr) (st_RECURRENT : Addr) (h0 : Heap) (n0 : Nat) (v : Option Value) (h : Heap) (L : List Loc) : Prop := v = some (.ref (own_pick i st_INITIATION st_CONSECUTION st_BOUNDED st_DECREASE st_NON_INCREASE st_PHASE_DECREASE st_NO_ERROR st_REACHABLE st_RECURRENT)) ∧ L = [] ∧ h = h0
theorem own_pn0 : plainName "com/example/invariant_to_halt/invarianttohalt/report/KindHoldsWhenSatisfiablePinLaw" = true := by first | (simp [plainName, overriddenIn]; done) | decide +kernel
set_option maxHeartbeats 40000000 in
theorem own_rm1 (l : Launch) (Z : State) (a0 : Array Value) (hw : ∀ d ∈ tables_1, d.before a0 Z = true) (ws : List Jvm.Cond) (i : Int32) (st_INITIATION : Addr) (st_CONSECUTION : Addr) (st_BOUNDED : Addr) (st_DECREASE : Addr) (st_NON_INCREASE : Addr) (st_PHASE_DECREASE : Addr) (st_NO_ERROR : Addr) (st_REACHABLE : Addr) (st_RECURRENT : Addr) (h0 : Heap) (n0 : Nat) (Z0 : n0 ≤ h0.size) (S_INITIATION : Sta Z h0 "com/example/invariant_to_halt/invarianttohalt/report/Obligation$Kind" "INITIATION" "Lcom/example/invariant_to_halt/invarianttohalt/report/Obligation$Kind;" (.ref st_INITIATION)) (S_CONSECUTION : Sta Z h0 "com/example/invariant_to_halt/invarianttohalt/report/Obligation$Kind" "CONSECUTION" "Lcom/example/invariant_to_halt/invarianttohalt/report/Obligation$Kind;" (.ref st_CONSECUTION)) (S_BOUNDED : Sta Z h0 "com/example/invariant_to_halt/invarianttohalt/report/Obligation$Kind" "BOUNDED" "Lcom/example/invariant_to_halt/invarianttohalt/report/Obligation$Kind;" (.ref st_BOUNDED)) (S_DECREASE : Sta Z h0 "com/example/invariant_to_halt/invarianttohalt/report/Obligation$Kind" "DECREASE" "Lcom/example/invariant_to_halt/invarianttohalt/report/Obligation$Kind;" (.ref st_DECREASE)) (S_NON_INCREASE : Sta Z h0 "com/example/invariant_to_halt/invarianttohalt/report/Obligation$Kind" "NON_INCREASE" "Lcom/example/invariant_to_halt/invarianttohalt/report/Obligation$Kind;" (.ref st_NON_INCREASE)) (S_PHASE_DECREASE : Sta Z h0 "com/example/invariant_to_halt/invarianttohalt/report/Obligation$Kind" "PHASE_DECREASE" "Lcom/example/invariant_to_halt/invarianttohalt/report/Obligation$Kind;" (.ref st_PHASE_DECREASE)) (S_NO_ERROR : Sta Z h0 "com/example/invariant_to_halt/invarianttohalt/report/Obligation$Kind" "NO_ERROR" "Lcom/example/invariant_to_halt/invarianttohalt/report/Obligation$Kind;" (.ref st_NO_ERROR)) (S_REACHABLE : Sta Z h0 "com/example/invariant_to_halt/invarianttohalt/report/Obligation$Kind" "REACHABLE" "Lcom/example/invariant_to_halt/invarianttohalt/report/Obligation$Kind;" (.ref st_REACHABLE)) (S_RECURRENT : Sta Z h0 "com/example/invariant_to_halt/invarianttohalt/report/Obligation$Kind" "RECURRENT" "Lcom/example/invariant_to_halt/invarianttohalt/report/Obligation$Kind;" (.ref st_RECURRENT)) :
    MetFree l (⟨"com/example/invariant_to_halt/invarianttohalt/report/KindHoldsWhenSatisfiablePinLaw", "pick", "(I)Lcom/example/invariant_to_halt/invarianttohalt/report/Obligation$Kind;"⟩ : MethodName) (head1 (Jvm.Cond.code (⟨"com/example/invariant_to_halt/invarianttohalt/report/KindHoldsWhenSatisfiablePinLaw", "pick", "(I)Lcom/example/invariant_to_halt/invarianttohalt/report/Obligation$Kind;"⟩ : MethodName) method_2_code 1 (some (.object "com/example/invariant_to_halt/invarianttohalt/report/Obligation$Kind")) :: ws) ({ frames := 0, cells := 0, slots := 0, locals := 0 } : Room)) (fun argv U => argv = #[(.int i)] ∧ Z.Warmed39 U.vm ∧ U.heap = h0) (fun _ _ _ _ _ => True) (fun _ U o U' => ∃ v L, o = .returned v ∧ own_Q1 Z i st_INITIATION st_CONSECUTION st_BOUNDED st_DECREASE st_NON_INCREASE st_PHASE_DECREASE st_NO_ERROR st_REACHABLE st_RECURRENT h0 n0 v U'.heap L ∧ FrameEnd U o U' L ({ frames := 0, cells := 0, slots := 0, locals := 0 } : Room).cells ({ frames := 0, cells := 0, slots := 0, locals := 0 } : Room).slots) := by
  refine MetFree.of_bodySF (plainFor_of_name own_pn0) hisR ?_
  intro p e s m args below meth c s₁ Bd hml0 hP hK
  obtain ⟨rfl, hZ, hh⟩ := hP
  have hx := Bd.exec
  have hby := Bd.bytes
  have hml : c.maxLocals = 1 := hml0
  have hown : s.vm.findClass "com/example/invariant_to_halt/invarianttohalt/report/KindHoldsWhenSatisfiablePinLaw" = some m.cls := findClass_of_methodNamed Bd.named
  have hnm := (name_of_methodNamed Bd.named Bd.method).1
  have X0 : Stand p l e ({ frames := 0, cells := 0, slots := 0, locals := 0 } : Room) s m #[(.int i)] below meth c s₁ [] 0 0 := Stand.of_body Bd
  have e0 : s₁.heap = h0 := by rw [← hh, Bd.state]; rfl
  have N0 := Fr.nil n0
  have pre0 : ∀ t, Steps p.tables e below (s₁.setTop (mkF m 0 #[.val (.int i)] [])) t → Steps p.tables e below (s₁.setTop (entryFrame m #[(.int i)] 1)) t := fun t k => castTop (own_ef1 m i) k
  have S1 : ∀ t, Steps p.tables e below (s₁.setTop (mkF m 1 #[.val (.int i)] [(.int i)])) t → Steps p.tables e below (s₁.setTop (entryFrame m #[(.int i)] 1)) t := fun t kt => by
    refine pre0 t ?_
    show Steps p.tables e below (s₁.setTop (mkF m 0 #[.val (.int i)] [])) t
    refine XS.iloadN X0.here hx rfl (hb hby own_d1_0) rfl ?_
    exact kt
  by_cases hc1 : i = (0 : Int32)
  · skip
    have S2 : ∀ t, Steps p.tables e below (s₁.setTop (mkF m 4 #[.val (.int i)] [])) t → Steps p.tables e below (s₁.setTop (entryFrame m #[(.int i)] 1)) t := fun t kt => by
      refine S1 t ?_
      show Steps p.tables e below (s₁.setTop (mkF m 1 #[.val (.int i)] [(.int i)])) t
      refine XS.ifNo X0.here hx rfl (hb hby own_d1_1) rfl ((if0 _ _).trans (teq hc1).2) ?_
      exact kt
    obtain ⟨T3, X3, e3, st3⟩ := getS2 X0 hx hZ hown (host := "") (Or.inl (hw _ (List.mem_of_getElem? (i := 5) rfl))) Via.refl e0 S_INITIATION (g := (mkF m 4 #[.val (.int i)] [])) rfl (hb hby own_d1_4)
    have S4 : ∀ t, Steps p.tables e below (T3.setTop (mkF m 7 #[.val (.int i)] [(.ref st_INITIATION)])) t → Steps p.tables e below (s₁.setTop (entryFrame m #[(.int i)] 1)) t := fun t kt => S2 t (st3 _ kt)
    obtain ⟨fs, hr, hrun, hended, hW, hsame⟩ := X3.leave (v := some (.ref st_INITIATION)) (fun h => by rw [Bd.returns] at h; cases h)
    refine ⟨_, _, S4 _ ?_, hrun, hended, _, _, rfl, ?_, ⟨_, rfl⟩, hW, hsame.mono (by decide) (by decide)⟩
    · show Steps p.tables e below (T3.setTop (mkF m 7 #[.val (.int i)] [(.ref st_INITIATION)])) _
      jvm_step X3.here [X3.here.top, hx, (hb hby own_d1_7), X3.method', Bd.returns, Value.isRef, FieldType.isReference]
      first | (intro acts; rw [hr _ acts rfl rfl rfl]) | rw [hr _ _ rfl rfl rfl]
      exact Steps.refl _
    · show own_Q1 Z i st_INITIATION st_CONSECUTION st_BOUNDED st_DECREASE st_NON_INCREASE st_PHASE_DECREASE st_NO_ERROR st_REACHABLE st_RECURRENT h0 n0 _ T3.heap _
      rw [e3]
      exact ⟨by unfold own_pick; rw [if_pos hc1], rfl, rfl⟩
  · skip
    have S5 : ∀ t, Steps p.tables e below (s₁.setTop (mkF m 10 #[.val (.int i)] [(.int (1 : Int32)), (.int i)])) t → Steps p.tables e below (s₁.setTop (entryFrame m #[(.int i)] 1)) t := fun t kt => by
      refine S1 t ?_
      show Steps p.tables e below (s₁.setTop (mkF m 1 #[.val (.int i)] [(.int i)])) t
      refine XS.ifYes X0.here hx rfl (pc0 := 1) (pc' := 8) rfl (hb hby own_d1_1) rfl ((if0 _ _).trans (feq hc1).2) (by decide) (by decide) ?_
      show Steps p.tables e below (s₁.setTop (mkF m 8 #[.val (.int i)] [])) t
      refine XS.iloadN X0.here hx rfl (hb hby own_d1_8) rfl ?_
      show Steps p.tables e below (s₁.setTop (mkF m 9 #[.val (.int i)] [(.int i)])) t
      refine XS.iconst X0.here hx rfl (hb hby own_d1_9) ?_
      exact kt
    by_cases hc10 : i = (1 : Int32)
    · skip
      have S6 : ∀ t, Steps p.tables e below (s₁.setTop (mkF m 13 #[.val (.int i)] [])) t → Steps p.tables e below (s₁.setTop (entryFrame m #[(.int i)] 1)) t := fun t kt => by
        refine S5 t ?_
        show Steps p.tables e below (s₁.setTop (mkF m 10 #[.val (.int i)] [(.int (1 : Int32)), (.int i)])) t
        refine XS.icmpNo X0.here hx rfl (hb hby own_d1_10) rfl (teq hc10).2 ?_
        exact kt
      obtain ⟨T7, X7, e7, st7⟩ := getS2 X0 hx hZ hown (host := "") (Or.inl (hw _ (List.mem_of_getElem? (i := 19) rfl))) Via.refl e0 S_CONSECUTION (g := (mkF m 13 #[.val (.int i)] [])) rfl (hb hby own_d1_13)
      have S8 : ∀ t, Steps p.tables e below (T7.setTop (mkF m 16 #[.val (.int i)] [(.ref st_CONSECUTION)])) t → Steps p.tables e below (s₁.setTop (entryFrame m #[(.int i)] 1)) t := fun t kt => S6 t (st7 _ kt)
      obtain ⟨fs, hr, hrun, hended, hW, hsame⟩ := X7.leave (v := some (.ref st_CONSECUTION)) (fun h => by rw [Bd.returns] at h; cases h)
      refine ⟨_, _, S8 _ ?_, hrun, hended, _, _, rfl, ?_, ⟨_, rfl⟩, hW, hsame.mono (by decide) (by decide)⟩
      · show Steps p.tables e below (T7.setTop (mkF m 16 #[.val (.int i)] [(.ref st_CONSECUTION)])) _
        jvm_step X7.here [X7.here.top, hx, (hb hby own_d1_16), X7.method', Bd.returns, Value.isRef, FieldType.isReference]
        first | (intro acts; rw [hr _ acts rfl rfl rfl]) | rw [hr _ _ rfl rfl rfl]
        exact Steps.refl _
      · show own_Q1 Z i st_INITIATION st_CONSECUTION st_BOUNDED st_DECREASE st_NON_INCREASE st_PHASE_DECREASE st_NO_ERROR st_REACHABLE st_RECURRENT h0 n0 _ T7.heap _
        rw [e7]
        exact ⟨by unfold own_pick; rw [if_neg hc1]; rw [if_pos hc10], rfl, rfl⟩
    · skip
      have S9 : ∀ t, Steps p.tables e below (s₁.setTop (mkF m 19 #[.val (.int i)] [(.int (2 : Int32)), (.int i)])) t → Steps p.tables e below (s₁.setTop (entryFrame m #[(.int i)] 1)) t := fun t kt => by
        refine S5 t ?_
        show Steps p.tables e below (s₁.setTop (mkF m 10 #[.val (.int i)] [(.int (1 : Int32)), (.int i)])) t
        refine XS.icmpYes X0.here hx rfl (pc0 := 10) (pc' := 17) rfl (hb hby own_d1_10) rfl (feq hc10).2 (by decide) (by decide) ?_
        show Steps p.tables e below (s₁.setTop (mkF m 17 #[.val (.int i)] [])) t
        refine XS.iloadN X0.here hx rfl (hb hby own_d1_17) rfl ?_
        show Steps p.tables e below (s₁.setTop (mkF m 18 #[.val (.int i)] [(.int i)])) t
        refine XS.iconst X0.here hx rfl (hb hby own_d1_18) ?_
        exact kt
      by_cases hc19 : i = (2 : Int32)
      · skip
        have S10 : ∀ t, Steps p.tables e below (s₁.setTop (mkF m 22 #[.val (.int i)] [])) t → Steps p.tables e below (s₁.setTop (entryFrame m #[(.int i)] 1)) t := fun t kt => by
          refine S9 t ?_
          show Steps p.tables e below (s₁.setTop (mkF m 19 #[.val (.int i)] [(.int (2 : Int32)), (.int i)])) t
          refine XS.icmpNo X0.here hx rfl (hb hby own_d1_19) rfl (teq hc19).2 ?_
          exact kt
        obtain ⟨T11, X11, e11, st11⟩ := getS2 X0 hx hZ hown (host := "") (Or.inl (hw _ (List.mem_of_getElem? (i := 17) rfl))) Via.refl e0 S_BOUNDED (g := (mkF m 22 #[.val (.int i)] [])) rfl (hb hby own_d1_22)
        have S12 : ∀ t, Steps p.tables e below (T11.setTop (mkF m 25 #[.val (.int i)] [(.ref st_BOUNDED)])) t → Steps p.tables e below (s₁.setTop (entryFrame m #[(.int i)] 1)) t := fun t kt => S10 t (st11 _ kt)
        obtain ⟨fs, hr, hrun, hended, hW, hsame⟩ := X11.leave (v := some (.ref st_BOUNDED)) (fun h => by rw [Bd.returns] at h; cases h)
        refine ⟨_, _, S12 _ ?_, hrun, hended, _, _, rfl, ?_, ⟨_, rfl⟩, hW, hsame.mono (by decide) (by decide)⟩
        · show Steps p.tables e below (T11.setTop (mkF m 25 #[.val (.int i)] [(.ref st_BOUNDED)])) _
          jvm_step X11.here [X11.here.top, hx, (hb hby own_d1_25), X11.method', Bd.returns, Value.isRef, FieldType.isReference]
          first | (intro acts; rw [hr _ acts rfl rfl rfl]) | rw [hr _ _ rfl rfl rfl]
          exact Steps.refl _
        · show own_Q1 Z i st_INITIATION st_CONSECUTION st_BOUNDED st_DECREASE st_NON_INCREASE st_PHASE_DECREASE st_NO_ERROR st_REACHABLE st_RECURRENT h0 n0 _ T11.heap _
          rw [e11]
          exact ⟨by unfold own_pick; rw [if_neg hc1]; rw [if_neg hc10]; rw [if_pos hc19], rfl, rfl⟩
      · skip
        have S13 : ∀ t, Steps p.tables e below (s₁.setTop (mkF m 28 #[.val (.int i)] [(.int (3 : Int32)), (.int i)])) t → Steps p.tables e below (s₁.setTop (entryFrame m #[(.int i)] 1)) t := fun t kt => by
          refine S9 t ?_
          show Steps p.tables e below (s₁.setTop (mkF m 19 #[.val (.int i)] [(.int (2 : Int32)), (.int i)])) t
          refine XS.icmpYes X0.here hx rfl (pc0 := 19) (pc' := 26) rfl (hb hby own_d1_19) rfl (feq hc19).2 (by decide) (by decide) ?_
          show Steps p.tables e below (s₁.setTop (mkF m 26 #[.val (.int i)] [])) t
          refine XS.iloadN X0.here hx rfl (hb hby own_d1_26) rfl ?_
          show Steps p.tables e below (s₁.setTop (mkF m 27 #[.val (.int i)] [(.int i)])) t
          refine XS.iconst X0.here hx rfl (hb hby own_d1_27) ?_
          exact kt
        by_cases hc28 : i = (3 : Int32)
        · skip
          have S14 : ∀ t, Steps p.tables e below (s₁.setTop (mkF m 31 #[.val (.int i)] [])) t → Steps p.tables e below (s₁.setTop (entryFrame m #[(.int i)] 1)) t := fun t kt => by
            refine S13 t ?_
            show Steps p.tables e below (s₁.setTop (mkF m 28 #[.val (.int i)] [(.int (3 : Int32)), (.int i)])) t
            refine XS.icmpNo X0.here hx rfl (hb hby own_d1_28) rfl (teq hc28).2 ?_
            exact kt
          obtain ⟨T15, X15, e15, st15⟩ := getS2 X0 hx hZ hown (host := "") (Or.inl (hw _ (List.mem_of_getElem? (i := 15) rfl))) Via.refl e0 S_DECREASE (g := (mkF m 31 #[.val (.int i)] [])) rfl (hb hby own_d1_31)
          have S16 : ∀ t, Steps p.tables e below (T15.setTop (mkF m 34 #[.val (.int i)] [(.ref st_DECREASE)])) t → Steps p.tables e below (s₁.setTop (entryFrame m #[(.int i)] 1)) t := fun t kt => S14 t (st15 _ kt)
          obtain ⟨fs, hr, hrun, hended, hW, hsame⟩ := X15.leave (v := some (.ref st_DECREASE)) (fun h => by rw [Bd.returns] at h; cases h)
          refine ⟨_, _, S16 _ ?_, hrun, hended, _, _, rfl, ?_, ⟨_, rfl⟩, hW, hsame.mono (by decide) (by decide)⟩
          · show Steps p.tables e below (T15.setTop (mkF m 34 #[.val (.int i)] [(.ref st_DECREASE)])) _
            jvm_step X15.here [X15.here.top, hx, (hb hby own_d1_34), X15.method', Bd.returns, Value.isRef, FieldType.isReference]
            first | (intro acts; rw [hr _ acts rfl rfl rfl]) | rw [hr _ _ rfl rfl rfl]
            exact Steps.refl _
          · show own_Q1 Z i st_INITIATION st_CONSECUTION st_BOUNDED st_DECREASE st_NON_INCREASE st_PHASE_DECREASE st_NO_ERROR st_REACHABLE st_RECURRENT h0 n0 _ T15.heap _
            rw [e15]
            exact ⟨by unfold own_pick; rw [if_neg hc1]; rw [if_neg hc10]; rw [if_neg hc19]; rw [if_pos hc28], rfl, rfl⟩
        · skip
          have S17 : ∀ t, Steps p.tables e below (s₁.setTop (mkF m 37 #[.val (.int i)] [(.int (4 : Int32)), (.int i)])) t → Steps p.tables e below (s₁.setTop (entryFrame m #[(.int i)] 1)) t := fun t kt => by
            refine S13 t ?_
            show Steps p.tables e below (s₁.setTop (mkF m 28 #[.val (.int i)] [(.int (3 : Int32)), (.int i)])) t
            refine XS.icmpYes X0.here hx rfl (pc0 := 28) (pc' := 35) rfl (hb hby own_d1_28) rfl (feq hc28).2 (by decide) (by decide) ?_
            show Steps p.tables e below (s₁.setTop (mkF m 35 #[.val (.int i)] [])) t
            refine XS.iloadN X0.here hx rfl (hb hby own_d1_35) rfl ?_
            show Steps p.tables e below (s₁.setTop (mkF m 36 #[.val (.int i)] [(.int i)])) t
            refine XS.iconst X0.here hx rfl (hb hby own_d1_36) ?_
            exact kt
          by_cases hc37 : i = (4 : Int32)
          · skip
            have S18 : ∀ t, Steps p.tables e below (s₁.setTop (mkF m 40 #[.val (.int i)] [])) t → Steps p.tables e below (s₁.setTop (entryFrame m #[(.int i)] 1)) t := fun t kt => by
              refine S17 t ?_
              show Steps p.tables e below (s₁.setTop (mkF m 37 #[.val (.int i)] [(.int (4 : Int32)), (.int i)])) t
              refine XS.icmpNo X0.here hx rfl (hb hby own_d1_37) rfl (teq hc37).2 ?_
              exact kt
            obtain ⟨T19, X19, e19, st19⟩ := getS2 X0 hx hZ hown (host := "") (Or.inl (hw _ (List.mem_of_getElem? (i := 22) rfl))) Via.refl e0 S_NON_INCREASE (g := (mkF m 40 #[.val (.int i)] [])) rfl (hb hby own_d1_40)
            have S20 : ∀ t, Steps p.tables e below (T19.setTop (mkF m 43 #[.val (.int i)] [(.ref st_NON_INCREASE)])) t → Steps p.tables e below (s₁.setTop (entryFrame m #[(.int i)] 1)) t := fun t kt => S18 t (st19 _ kt)
            obtain ⟨fs, hr, hrun, hended, hW, hsame⟩ := X19.leave (v := some (.ref st_NON_INCREASE)) (fun h => by rw [Bd.returns] at h; cases h)
            refine ⟨_, _, S20 _ ?_, hrun, hended, _, _, rfl, ?_, ⟨_, rfl⟩, hW, hsame.mono (by decide) (by decide)⟩
            · show Steps p.tables e below (T19.setTop (mkF m 43 #[.val (.int i)] [(.ref st_NON_INCREASE)])) _
              jvm_step X19.here [X19.here.top, hx, (hb hby own_d1_43), X19.method', Bd.returns, Value.isRef, FieldType.isReference]
              first | (intro acts; rw [hr _ acts rfl rfl rfl]) | rw [hr _ _ rfl rfl rfl]
              exact Steps.refl _
            · show own_Q1 Z i st_INITIATION st_CONSECUTION st_BOUNDED st_DECREASE st_NON_INCREASE st_PHASE_DECREASE st_NO_ERROR st_REACHABLE st_RECURRENT h0 n0 _ T19.heap _
              rw [e19]
              exact ⟨by unfold own_pick; rw [if_neg hc1]; rw [if_neg hc10]; rw [if_neg hc19]; rw [if_neg hc28]; rw [if_pos hc37], rfl, rfl⟩
          · skip
            have S21 : ∀ t, Steps p.tables e below (s₁.setTop (mkF m 46 #[.val (.int i)] [(.int (5 : Int32)), (.int i)])) t → Steps p.tables e below (s₁.setTop (entryFrame m #[(.int i)] 1)) t := fun t kt => by
              refine S17 t ?_
              show Steps p.tables e below (s₁.setTop (mkF m 37 #[.val (.int i)] [(.int (4 : Int32)), (.int i)])) t
              refine XS.icmpYes X0.here hx rfl (pc0 := 37) (pc' := 44) rfl (hb hby own_d1_37) rfl (feq hc37).2 (by decide) (by decide) ?_
              show Steps p.tables e below (s₁.setTop (mkF m 44 #[.val (.int i)] [])) t
              refine XS.iloadN X0.here hx rfl (hb hby own_d1_44) rfl ?_
              show Steps p.tables e below (s₁.setTop (mkF m 45 #[.val (.int i)] [(.int i)])) t
              refine XS.iconst X0.here hx rfl (hb hby own_d1_45) ?_
              exact kt
            by_cases hc46 : i = (5 : Int32)
            · skip
              have S22 : ∀ t, Steps p.tables e below (s₁.setTop (mkF m 49 #[.val (.int i)] [])) t → Steps p.tables e below (s₁.setTop (entryFrame m #[(.int i)] 1)) t := fun t kt => by
                refine S21 t ?_
                show Steps p.tables e below (s₁.setTop (mkF m 46 #[.val (.int i)] [(.int (5 : Int32)), (.int i)])) t
                refine XS.icmpNo X0.here hx rfl (hb hby own_d1_46) rfl (teq hc46).2 ?_
                exact kt
              obtain ⟨T23, X23, e23, st23⟩ := getS2 X0 hx hZ hown (host := "") (Or.inl (hw _ (List.mem_of_getElem? (i := 28) rfl))) Via.refl e0 S_PHASE_DECREASE (g := (mkF m 49 #[.val (.int i)] [])) rfl (hb hby own_d1_49)
              have S24 : ∀ t, Steps p.tables e below (T23.setTop (mkF m 52 #[.val (.int i)] [(.ref st_PHASE_DECREASE)])) t → Steps p.tables e below (s₁.setTop (entryFrame m #[(.int i)] 1)) t := fun t kt => S22 t (st23 _ kt)
              obtain ⟨fs, hr, hrun, hended, hW, hsame⟩ := X23.leave (v := some (.ref st_PHASE_DECREASE)) (fun h => by rw [Bd.returns] at h; cases h)
              refine ⟨_, _, S24 _ ?_, hrun, hended, _, _, rfl, ?_, ⟨_, rfl⟩, hW, hsame.mono (by decide) (by decide)⟩
              · show Steps p.tables e below (T23.setTop (mkF m 52 #[.val (.int i)] [(.ref st_PHASE_DECREASE)])) _
                jvm_step X23.here [X23.here.top, hx, (hb hby own_d1_52), X23.method', Bd.returns, Value.isRef, FieldType.isReference]
                first | (intro acts; rw [hr _ acts rfl rfl rfl]) | rw [hr _ _ rfl rfl rfl]
                exact Steps.refl _
              · show own_Q1 Z i st_INITIATION st_CONSECUTION st_BOUNDED st_DECREASE st_NON_INCREASE st_PHASE_DECREASE st_NO_ERROR st_REACHABLE st_RECURRENT h0 n0 _ T23.heap _
                rw [e23]
                exact ⟨by unfold own_pick; rw [if_neg hc1]; rw [if_neg hc10]; rw [if_neg hc19]; rw [if_neg hc28]; rw [if_neg hc37]; rw [if_pos hc46], rfl, rfl⟩
            · skip
              have S25 : ∀ t, Steps p.tables e below (s₁.setTop (mkF m 56 #[.val (.int i)] [(.int (6 : Int32)), (.int i)])) t → Steps p.tables e below (s₁.setTop (entryFrame m #[(.int i)] 1)) t := fun t kt => by
                refine S21 t ?_
                show Steps p.tables e below (s₁.setTop (mkF m 46 #[.val (.int i)] [(.int (5 : Int32)), (.int i)])) t
                refine XS.icmpYes X0.here hx rfl (pc0 := 46) (pc' := 53) rfl (hb hby own_d1_46) rfl (feq hc46).2 (by decide) (by decide) ?_
                show Steps p.tables e below (s₁.setTop (mkF m 53 #[.val (.int i)] [])) t
                refine XS.iloadN X0.here hx rfl (hb hby own_d1_53) rfl ?_
                show Steps p.tables e below (s₁.setTop (mkF m 54 #[.val (.int i)] [(.int i)])) t
                refine XS.bipush X0.here hx rfl (hb hby own_d1_54) ?_
                exact kt
              by_cases hc56 : i = (6 : Int32)
              · skip
                have S26 : ∀ t, Steps p.tables e below (s₁.setTop (mkF m 59 #[.val (.int i)] [])) t → Steps p.tables e below (s₁.setTop (entryFrame m #[(.int i)] 1)) t := fun t kt => by
                  refine S25 t ?_
                  show Steps p.tables e below (s₁.setTop (mkF m 56 #[.val (.int i)] [(.int (6 : Int32)), (.int i)])) t
                  refine XS.icmpNo X0.here hx rfl (hb hby own_d1_56) rfl (teq hc56).2 ?_
                  exact kt
                obtain ⟨T27, X27, e27, st27⟩ := getS2 X0 hx hZ hown (host := "") (Or.inl (hw _ (List.mem_of_getElem? (i := 26) rfl))) Via.refl e0 S_NO_ERROR (g := (mkF m 59 #[.val (.int i)] [])) rfl (hb hby own_d1_59)
                have S28 : ∀ t, Steps p.tables e below (T27.setTop (mkF m 62 #[.val (.int i)] [(.ref st_NO_ERROR)])) t → Steps p.tables e below (s₁.setTop (entryFrame m #[(.int i)] 1)) t := fun t kt => S26 t (st27 _ kt)
                obtain ⟨fs, hr, hrun, hended, hW, hsame⟩ := X27.leave (v := some (.ref st_NO_ERROR)) (fun h => by rw [Bd.returns] at h; cases h)
                refine ⟨_, _, S28 _ ?_, hrun, hended, _, _, rfl, ?_, ⟨_, rfl⟩, hW, hsame.mono (by decide) (by decide)⟩
                · show Steps p.tables e below (T27.setTop (mkF m 62 #[.val (.int i)] [(.ref st_NO_ERROR)])) _
                  jvm_step X27.here [X27.here.top, hx, (hb hby own_d1_62), X27.method', Bd.returns, Value.isRef, FieldType.isReference]
                  first | (intro acts; rw [hr _ acts rfl rfl rfl]) | rw [hr _ _ rfl rfl rfl]
                  exact Steps.refl _
                · show own_Q1 Z i st_INITIATION st_CONSECUTION st_BOUNDED st_DECREASE st_NON_INCREASE st_PHASE_DECREASE st_NO_ERROR st_REACHABLE st_RECURRENT h0 n0 _ T27.heap _
                  rw [e27]
                  exact ⟨by unfold own_pick; rw [if_neg hc1]; rw [if_neg hc10]; rw [if_neg hc19]; rw [if_neg hc28]; rw [if_neg hc37]; rw [if_neg hc46]; rw [if_pos hc56], rfl, rfl⟩
              · skip
                have S29 : ∀ t, Steps p.tables e below (s₁.setTop (mkF m 66 #[.val (.int i)] [(.int (7 : Int32)), (.int i)])) t → Steps p.tables e below (s₁.setTop (entryFrame m #[(.int i)] 1)) t := fun t kt => by
                  refine S25 t ?_
                  show Steps p.tables e below (s₁.setTop (mkF m 56 #[.val (.int i)] [(.int (6 : Int32)), (.int i)])) t
                  refine XS.icmpYes X0.here hx rfl (pc0 := 56) (pc' := 63) rfl (hb hby own_d1_56) rfl (feq hc56).2 (by decide) (by decide) ?_
                  show Steps p.tables e below (s₁.setTop (mkF m 63 #[.val (.int i)] [])) t
                  refine XS.iloadN X0.here hx rfl (hb hby own_d1_63) rfl ?_
                  show Steps p.tables e below (s₁.setTop (mkF m 64 #[.val (.int i)] [(.int i)])) t
                  refine XS.bipush X0.here hx rfl (hb hby own_d1_64) ?_
                  exact kt
                by_cases hc66 : i = (7 : Int32)
                · skip
                  have S30 : ∀ t, Steps p.tables e below (s₁.setTop (mkF m 69 #[.val (.int i)] [])) t → Steps p.tables e below (s₁.setTop (entryFrame m #[(.int i)] 1)) t := fun t kt => by
                    refine S29 t ?_
                    show Steps p.tables e below (s₁.setTop (mkF m 66 #[.val (.int i)] [(.int (7 : Int32)), (.int i)])) t
                    refine XS.icmpNo X0.here hx rfl (hb hby own_d1_66) rfl (teq hc66).2 ?_
                    exact kt
                  obtain ⟨T31, X31, e31, st31⟩ := getS2 X0 hx hZ hown (host := "") (Or.inl (hw _ (List.mem_of_getElem? (i := 21) rfl))) Via.refl e0 S_REACHABLE (g := (mkF m 69 #[.val (.int i)] [])) rfl (hb hby own_d1_69)
                  have S32 : ∀ t, Steps p.tables e below (T31.setTop (mkF m 72 #[.val (.int i)] [(.ref st_REACHABLE)])) t → Steps p.tables e below (s₁.setTop (entryFrame m #[(.int i)] 1)) t := fun t kt => S30 t (st31 _ kt)
                  obtain ⟨fs, hr, hrun, hended, hW, hsame⟩ := X31.leave (v := some (.ref st_REACHABLE)) (fun h => by rw [Bd.returns] at h; cases h)
                  refine ⟨_, _, S32 _ ?_, hrun, hended, _, _, rfl, ?_, ⟨_, rfl⟩, hW, hsame.mono (by decide) (by decide)⟩
                  · show Steps p.tables e below (T31.setTop (mkF m 72 #[.val (.int i)] [(.ref st_REACHABLE)])) _
                    jvm_step X31.here [X31.here.top, hx, (hb hby own_d1_72), X31.method', Bd.returns, Value.isRef, FieldType.isReference]
                    first | (intro acts; rw [hr _ acts rfl rfl rfl]) | rw [hr _ _ rfl rfl rfl]
                    exact Steps.refl _
                  · show own_Q1 Z i st_INITIATION st_CONSECUTION st_BOUNDED st_DECREASE st_NON_INCREASE st_PHASE_DECREASE st_NO_ERROR st_REACHABLE st_RECURRENT h0 n0 _ T31.heap _
                    rw [e31]
                    exact ⟨by unfold own_pick; rw [if_neg hc1]; rw [if_neg hc10]; rw [if_neg hc19]; rw [if_neg hc28]; rw [if_neg hc37]; rw [if_neg hc46]; rw [if_neg hc56]; rw [if_pos hc66], rfl, rfl⟩
                · skip
                  have S33 : ∀ t, Steps p.tables e below (s₁.setTop (mkF m 73 #[.val (.int i)] [])) t → Steps p.tables e below (s₁.setTop (entryFrame m #[(.int i)] 1)) t := fun t kt => by
                    refine S29 t ?_
                    show Steps p.tables e below (s₁.setTop (mkF m 66 #[.val (.int i)] [(.int (7 : Int32)), (.int i)])) t
                    refine XS.icmpYes X0.here hx rfl (pc0 := 66) (pc' := 73) rfl (hb hby own_d1_66) rfl (feq hc66).2 (by decide) (by decide) ?_
                    exact kt
                  obtain ⟨T34, X34, e34, st34⟩ := getS2 X0 hx hZ hown (host := "") (Or.inl (hw _ (List.mem_of_getElem? (i := 24) rfl))) Via.refl e0 S_RECURRENT (g := (mkF m 73 #[.val (.int i)] [])) rfl (hb hby own_d1_73)
                  have S35 : ∀ t, Steps p.tables e below (T34.setTop (mkF m 76 #[.val (.int i)] [(.ref st_RECURRENT)])) t → Steps p.tables e below (s₁.setTop (entryFrame m #[(.int i)] 1)) t := fun t kt => S33 t (st34 _ kt)
                  obtain ⟨fs, hr, hrun, hended, hW, hsame⟩ := X34.leave (v := some (.ref st_RECURRENT)) (fun h => by rw [Bd.returns] at h; cases h)
                  refine ⟨_, _, S35 _ ?_, hrun, hended, _, _, rfl, ?_, ⟨_, rfl⟩, hW, hsame.mono (by decide) (by decide)⟩
                  · show Steps p.tables e below (T34.setTop (mkF m 76 #[.val (.int i)] [(.ref st_RECURRENT)])) _
                    jvm_step X34.here [X34.here.top, hx, (hb hby own_d1_76), X34.method', Bd.returns, Value.isRef, FieldType.isReference]
                    first | (intro acts; rw [hr _ acts rfl rfl rfl]) | rw [hr _ _ rfl rfl rfl]
                    exact Steps.refl _
                  · show own_Q1 Z i st_INITIATION st_CONSECUTION st_BOUNDED st_DECREASE st_NON_INCREASE st_PHASE_DECREASE st_NO_ERROR st_REACHABLE st_RECURRENT h0 n0 _ T34.heap _
                    rw [e34]
                    exact ⟨by unfold own_pick; rw [if_neg hc1]; rw [if_neg hc10]; rw [if_neg hc19]; rw [if_neg hc28]; rw [if_neg hc37]; rw [if_neg hc46]; rw [if_neg hc56]; rw [if_neg hc66], rfl, rfl⟩
theorem own_d2_0 : decode prog_67_method_4_code 0 = .ok (.aload_n 0, 1) := by decide +kernel
theorem own_d2_1 : decode prog_67_method_4_code 1 = .ok (.getstatic 25, 3) := by decide +kernel
theorem own_d2_4 : decode prog_67_method_4_code 4 = .ok (.if_acmp .ne 7, 3) := by decide +kernel
theorem own_d2_7 : decode prog_67_method_4_code 7 = .ok (.iconst 1, 1) := by decide +kernel
theorem own_d2_8 : decode prog_67_method_4_code 8 = .ok (.goto 4, 3) := by decide +kernel
theorem own_d2_11 : decode prog_67_method_4_code 11 = .ok (.iconst 0, 1) := by decide +kernel
theorem own_d2_12 : decode prog_67_method_4_code 12 = .ok (.ireturn, 1) := by decide +kernel
theorem own_ef2 (m : MethodId) (x0 : Addr) : entryFrame m #[(.ref x0)] 1 = mkF m 0 #[.val (.ref x0)] [] := by first | (simp [entryFrame, mkF, argsToLocals, Value.category]; done) | rfl
def own_Q2 (Z : State) (a : Addr) (st_REACHABLE : Addr) (h0 : Heap) (n0 : Nat) (v : Option Value) (h : Heap) (L : List Loc) : Prop := v = some (.int (own_b (decide (a = st_REACHABLE)))) ∧ L = [] ∧ h = h0
theorem own_pn1 : plainName "com/example/invariant_to_halt/invarianttohalt/report/Obligation$Kind" = true := by first | (simp [plainName, overriddenIn]; done) | decide +kernel
set_option maxHeartbeats 40000000 in
theorem own_rm2 (l : Launch) (Z : State) (a0 : Array Value) (hw : ∀ d ∈ tables_1, d.before a0 Z = true) (ws : List Jvm.Cond) (a : Addr) (st_REACHABLE : Addr) (h0 : Heap) (n0 : Nat) (Z0 : n0 ≤ h0.size) (S_REACHABLE : Sta Z h0 "com/example/invariant_to_halt/invarianttohalt/report/Obligation$Kind" "REACHABLE" "Lcom/example/invariant_to_halt/invarianttohalt/report/Obligation$Kind;" (.ref st_REACHABLE)) :
    MetFree l (⟨"com/example/invariant_to_halt/invarianttohalt/report/Obligation$Kind", "holdsWhenSatisfiable", "()Z"⟩ : MethodName) (head1 (Jvm.Cond.code (⟨"com/example/invariant_to_halt/invarianttohalt/report/Obligation$Kind", "holdsWhenSatisfiable", "()Z"⟩ : MethodName) prog_67_method_4_code 1 (some .boolean) :: ws) ({ frames := 0, cells := 0, slots := 0, locals := 0 } : Room)) (fun argv U => argv = #[(.ref a)] ∧ Z.Warmed39 U.vm ∧ U.heap = h0) (fun _ _ _ _ _ => True) (fun _ U o U' => ∃ v L, o = .returned v ∧ own_Q2 Z a st_REACHABLE h0 n0 v U'.heap L ∧ FrameEnd U o U' L ({ frames := 0, cells := 0, slots := 0, locals := 0 } : Room).cells ({ frames := 0, cells := 0, slots := 0, locals := 0 } : Room).slots) := by
  refine MetFree.of_bodySF (plainFor_of_name own_pn1) hisR ?_
  intro p e s m args below meth c s₁ Bd hml0 hP hK
  obtain ⟨rfl, hZ, hh⟩ := hP
  have hx := Bd.exec
  have hby := Bd.bytes
  have hml : c.maxLocals = 1 := hml0
  have hown : s.vm.findClass "com/example/invariant_to_halt/invarianttohalt/report/Obligation$Kind" = some m.cls := findClass_of_methodNamed Bd.named
  have hnm := (name_of_methodNamed Bd.named Bd.method).1
  have X0 : Stand p l e ({ frames := 0, cells := 0, slots := 0, locals := 0 } : Room) s m #[(.ref a)] below meth c s₁ [] 0 0 := Stand.of_body Bd
  have e0 : s₁.heap = h0 := by rw [← hh, Bd.state]; rfl
  have N0 := Fr.nil n0
  have pre0 : ∀ t, Steps p.tables e below (s₁.setTop (mkF m 0 #[.val (.ref a)] [])) t → Steps p.tables e below (s₁.setTop (entryFrame m #[(.ref a)] 1)) t := fun t k => castTop (own_ef2 m a) k
  have S1 : ∀ t, Steps p.tables e below (s₁.setTop (mkF m 1 #[.val (.ref a)] [(.ref a)])) t → Steps p.tables e below (s₁.setTop (entryFrame m #[(.ref a)] 1)) t := fun t kt => by
    refine pre0 t ?_
    show Steps p.tables e below (s₁.setTop (mkF m 0 #[.val (.ref a)] [])) t
    refine XS.aloadN X0.here hx rfl (hb hby own_d2_0) rfl rfl ?_
    exact kt
  obtain ⟨T2, X2, e2, st2⟩ := getS2 X0 hx hZ hown (host := "") (Or.inl (hw _ (List.mem_of_getElem? (i := 13) rfl))) Via.refl e0 S_REACHABLE (g := (mkF m 1 #[.val (.ref a)] [(.ref a)])) rfl (hb hby own_d2_1)
  have S3 : ∀ t, Steps p.tables e below (T2.setTop (mkF m 4 #[.val (.ref a)] [(.ref st_REACHABLE), (.ref a)])) t → Steps p.tables e below (s₁.setTop (entryFrame m #[(.ref a)] 1)) t := fun t kt => S1 t (st2 _ kt)
  by_cases hc4 : a = st_REACHABLE
  · skip
    have S4 : ∀ t, Steps p.tables e below (T2.setTop (mkF m 12 #[.val (.ref a)] [(.int (1 : Int32))])) t → Steps p.tables e below (s₁.setTop (entryFrame m #[(.ref a)] 1)) t := fun t kt => by
      refine S3 t ?_
      show Steps p.tables e below (T2.setTop (mkF m 4 #[.val (.ref a)] [(.ref st_REACHABLE), (.ref a)])) t
      refine Jvm.RoadKit.acmp (g := (mkF m 4 #[.val (.ref a)] [(.ref st_REACHABLE), (.ref a)])) X2 hx rfl rfl rfl (pc0 := 4) (pc' := 7) (same := true) rfl (hb hby own_d2_4) rfl (decide_eq_true (congrArg Value.ref hc4)) (by decide) (by decide) ?_
      show Steps p.tables e below (T2.setTop (mkF m 7 #[.val (.ref a)] [])) t
      refine XS.iconst X2.here hx rfl (hb hby own_d2_7) ?_
      show Steps p.tables e below (T2.setTop (mkF m 8 #[.val (.ref a)] [(.int (1 : Int32))])) t
      refine XS.goto X2.here hx rfl (pc0 := 8) (pc' := 12) rfl (hb hby own_d2_8) (by decide) (by decide) ?_
      exact kt
    obtain ⟨fs, hr, hrun, hended, hW, hsame⟩ := X2.leave (v := some (.int (nar .boolean (1 : Int32)))) (fun h => by rw [Bd.returns] at h; cases h)
    refine ⟨_, _, S4 _ ?_, hrun, hended, _, _, rfl, ?_, ⟨_, rfl⟩, hW, hsame.mono (by decide) (by decide)⟩
    · show Steps p.tables e below (T2.setTop (mkF m 12 #[.val (.ref a)] [(.int (1 : Int32))])) _
      exact retN X2 hx (t := .boolean) Bd.returns (by simp) (hb hby own_d2_12) hr
    · show own_Q2 Z a st_REACHABLE h0 n0 _ T2.heap _
      rw [e2]
      exact ⟨own_leafT (by simp only [decide_true, decide_true, decide_false, not_true_eq_false, not_false_eq_true, and_true, true_and, and_false, false_and, and_self, or_true, true_or, or_false, false_or, or_self, if_true, if_false, Bool.not_true, Bool.not_false, Bool.and_true, Bool.true_and, Bool.and_false, Bool.false_and, *]), rfl, rfl⟩
  · skip
    have S5 : ∀ t, Steps p.tables e below (T2.setTop (mkF m 12 #[.val (.ref a)] [(.int (0 : Int32))])) t → Steps p.tables e below (s₁.setTop (entryFrame m #[(.ref a)] 1)) t := fun t kt => by
      refine S3 t ?_
      show Steps p.tables e below (T2.setTop (mkF m 4 #[.val (.ref a)] [(.ref st_REACHABLE), (.ref a)])) t
      refine Jvm.RoadKit.acmp (g := (mkF m 4 #[.val (.ref a)] [(.ref st_REACHABLE), (.ref a)])) X2 hx rfl rfl rfl (pc0 := 4) (pc' := 11) (same := false) rfl (hb hby own_d2_4) rfl (decide_eq_false fun q => hc4 (Value.ref.inj q)) (by decide) (by decide) ?_
      show Steps p.tables e below (T2.setTop (mkF m 11 #[.val (.ref a)] [])) t
      refine XS.iconst X2.here hx rfl (hb hby own_d2_11) ?_
      exact kt
    obtain ⟨fs, hr, hrun, hended, hW, hsame⟩ := X2.leave (v := some (.int (nar .boolean (0 : Int32)))) (fun h => by rw [Bd.returns] at h; cases h)
    refine ⟨_, _, S5 _ ?_, hrun, hended, _, _, rfl, ?_, ⟨_, rfl⟩, hW, hsame.mono (by decide) (by decide)⟩
    · show Steps p.tables e below (T2.setTop (mkF m 12 #[.val (.ref a)] [(.int (0 : Int32))])) _
      exact retN X2 hx (t := .boolean) Bd.returns (by simp) (hb hby own_d2_12) hr
    · show own_Q2 Z a st_REACHABLE h0 n0 _ T2.heap _
      rw [e2]
      exact ⟨own_leafF (by simp only [decide_true, decide_true, decide_false, not_true_eq_false, not_false_eq_true, and_true, true_and, and_false, false_and, and_self, or_true, true_or, or_false, false_or, or_self, if_true, if_false, Bool.not_true, Bool.not_false, Bool.and_true, Bool.true_and, Bool.and_false, Bool.false_and, *]), rfl, rfl⟩
theorem own_pd0 : parseMethodDescriptor "(I)Lcom/example/invariant_to_halt/invarianttohalt/report/Obligation$Kind;" = some ⟨[.int], some (.object "com/example/invariant_to_halt/invarianttohalt/report/Obligation$Kind")⟩ := by decide +kernel
theorem own_pd1 : parseMethodDescriptor "()Z" = some ⟨[], some .boolean⟩ := by decide +kernel
theorem own_ef0 (m : MethodId) (x0 : Int32) : entryFrame m #[(.int x0)] maxLocals = mkF m 0 #[.val (.int x0), .unset, .unset, .unset] [] := by first | (simp [entryFrame, mkF, argsToLocals, Value.category, maxLocals]; done) | rfl
def own_Q0 (Z : State) (xx : Int32) (st_INITIATION : Addr) (st_CONSECUTION : Addr) (st_BOUNDED : Addr) (st_DECREASE : Addr) (st_NON_INCREASE : Addr) (st_PHASE_DECREASE : Addr) (st_NO_ERROR : Addr) (st_REACHABLE : Addr) (st_RECURRENT : Addr) (h0 : Heap) (n0 : Nat) (v : Option Value) (h : Heap) (L : List Loc) : Prop := v = some (.int (1 : Int32)) ∧ Fr n0 L
set_option maxHeartbeats 40000000 in
theorem own_rm0 (l : Launch) (Z : State) (a0 : Array Value) (hw : ∀ d ∈ tables_1, d.before a0 Z = true) (ws : List Jvm.Cond) (xx : Int32) (st_INITIATION : Addr) (st_CONSECUTION : Addr) (st_BOUNDED : Addr) (st_DECREASE : Addr) (st_NON_INCREASE : Addr) (st_PHASE_DECREASE : Addr) (st_NO_ERROR : Addr) (st_REACHABLE : Addr) (st_RECURRENT : Addr) (h0 : Heap) (n0 : Nat) (Z0 : n0 ≤ h0.size) (S_INITIATION : Sta Z h0 "com/example/invariant_to_halt/invarianttohalt/report/Obligation$Kind" "INITIATION" "Lcom/example/invariant_to_halt/invarianttohalt/report/Obligation$Kind;" (.ref st_INITIATION)) (S_CONSECUTION : Sta Z h0 "com/example/invariant_to_halt/invarianttohalt/report/Obligation$Kind" "CONSECUTION" "Lcom/example/invariant_to_halt/invarianttohalt/report/Obligation$Kind;" (.ref st_CONSECUTION)) (S_BOUNDED : Sta Z h0 "com/example/invariant_to_halt/invarianttohalt/report/Obligation$Kind" "BOUNDED" "Lcom/example/invariant_to_halt/invarianttohalt/report/Obligation$Kind;" (.ref st_BOUNDED)) (S_DECREASE : Sta Z h0 "com/example/invariant_to_halt/invarianttohalt/report/Obligation$Kind" "DECREASE" "Lcom/example/invariant_to_halt/invarianttohalt/report/Obligation$Kind;" (.ref st_DECREASE)) (S_NON_INCREASE : Sta Z h0 "com/example/invariant_to_halt/invarianttohalt/report/Obligation$Kind" "NON_INCREASE" "Lcom/example/invariant_to_halt/invarianttohalt/report/Obligation$Kind;" (.ref st_NON_INCREASE)) (S_PHASE_DECREASE : Sta Z h0 "com/example/invariant_to_halt/invarianttohalt/report/Obligation$Kind" "PHASE_DECREASE" "Lcom/example/invariant_to_halt/invarianttohalt/report/Obligation$Kind;" (.ref st_PHASE_DECREASE)) (S_NO_ERROR : Sta Z h0 "com/example/invariant_to_halt/invarianttohalt/report/Obligation$Kind" "NO_ERROR" "Lcom/example/invariant_to_halt/invarianttohalt/report/Obligation$Kind;" (.ref st_NO_ERROR)) (S_REACHABLE : Sta Z h0 "com/example/invariant_to_halt/invarianttohalt/report/Obligation$Kind" "REACHABLE" "Lcom/example/invariant_to_halt/invarianttohalt/report/Obligation$Kind;" (.ref st_REACHABLE)) (S_RECURRENT : Sta Z h0 "com/example/invariant_to_halt/invarianttohalt/report/Obligation$Kind" "RECURRENT" "Lcom/example/invariant_to_halt/invarianttohalt/report/Obligation$Kind;" (.ref st_RECURRENT)) (E_INITIATION : Exa Z h0 st_INITIATION "com/example/invariant_to_halt/invarianttohalt/report/Obligation$Kind") (E_CONSECUTION : Exa Z h0 st_CONSECUTION "com/example/invariant_to_halt/invarianttohalt/report/Obligation$Kind") (E_BOUNDED : Exa Z h0 st_BOUNDED "com/example/invariant_to_halt/invarianttohalt/report/Obligation$Kind") (E_DECREASE : Exa Z h0 st_DECREASE "com/example/invariant_to_halt/invarianttohalt/report/Obligation$Kind") (E_NON_INCREASE : Exa Z h0 st_NON_INCREASE "com/example/invariant_to_halt/invarianttohalt/report/Obligation$Kind") (E_PHASE_DECREASE : Exa Z h0 st_PHASE_DECREASE "com/example/invariant_to_halt/invarianttohalt/report/Obligation$Kind") (E_NO_ERROR : Exa Z h0 st_NO_ERROR "com/example/invariant_to_halt/invarianttohalt/report/Obligation$Kind") (E_REACHABLE : Exa Z h0 st_REACHABLE "com/example/invariant_to_halt/invarianttohalt/report/Obligation$Kind") (E_RECURRENT : Exa Z h0 st_RECURRENT "com/example/invariant_to_halt/invarianttohalt/report/Obligation$Kind") (n_INITIATION : ¬ st_INITIATION = st_REACHABLE) (n_CONSECUTION : ¬ st_CONSECUTION = st_REACHABLE) (n_BOUNDED : ¬ st_BOUNDED = st_REACHABLE) (n_DECREASE : ¬ st_DECREASE = st_REACHABLE) (n_NON_INCREASE : ¬ st_NON_INCREASE = st_REACHABLE) (n_PHASE_DECREASE : ¬ st_PHASE_DECREASE = st_REACHABLE) (n_NO_ERROR : ¬ st_NO_ERROR = st_REACHABLE) (n_RECURRENT : ¬ st_RECURRENT = st_REACHABLE) :
    MetFree l x (head1 (Jvm.Cond.code x code maxLocals ret :: ws) room_1) (fun argv U => argv = #[(.int xx)] ∧ Z.Warmed39 U.vm ∧ U.heap = h0) (fun _ _ _ _ _ => True) (fun _ U o U' => ∃ v L, o = .returned v ∧ own_Q0 Z xx st_INITIATION st_CONSECUTION st_BOUNDED st_DECREASE st_NON_INCREASE st_PHASE_DECREASE st_NO_ERROR st_REACHABLE st_RECURRENT h0 n0 v U'.heap L ∧ FrameEnd U o U' L room_1.cells room_1.slots) := by
  refine MetFree.of_bodySF (plainFor_of_name own_pn0) hisR ?_
  intro p e s m args below meth c s₁ Bd hml0 hP hK
  obtain ⟨rfl, hZ, hh⟩ := hP
  have hx := Bd.exec
  have hby := Bd.bytes
  have hml : c.maxLocals = 4 := hml0
  have hown : s.vm.findClass "com/example/invariant_to_halt/invarianttohalt/report/KindHoldsWhenSatisfiablePinLaw" = some m.cls := findClass_of_methodNamed Bd.named
  have hnm := (name_of_methodNamed Bd.named Bd.method).1
  have X0 : Stand p l e room_1 s m #[(.int xx)] below meth c s₁ [] 0 0 := Stand.of_body Bd
  have e0 : s₁.heap = h0 := by rw [← hh, Bd.state]; rfl
  have N0 := Fr.nil n0
  have pre0 : ∀ t, Steps p.tables e below (s₁.setTop (mkF m 0 #[.val (.int xx), .unset, .unset, .unset] [])) t → Steps p.tables e below (s₁.setTop (entryFrame m #[(.int xx)] maxLocals)) t := fun t k => castTop (own_ef0 m xx) k
  have S2 : ∀ t, Steps p.tables e below (s₁.setTop (mkF m 9 #[.val (.int xx), .val (.int ((xx &&& (2147483647 : Int32)) % (9 : Int32))), .unset, .unset] [(.int ((xx &&& (2147483647 : Int32)) % (9 : Int32)))])) t → Steps p.tables e below (s₁.setTop (entryFrame m #[(.int xx)] maxLocals)) t := fun t kt => by
    refine pre0 t ?_
    show Steps p.tables e below (s₁.setTop (mkF m 0 #[.val (.int xx), .unset, .unset, .unset] [])) t
    refine XS.iloadN X0.here hx rfl (hb hby at_0) rfl ?_
    show Steps p.tables e below (s₁.setTop (mkF m 1 #[.val (.int xx), .unset, .unset, .unset] [(.int xx)])) t
    refine X0.ldcInt hx hown (mvT hZ (hw _ (List.mem_of_getElem? (i := 0) rfl))) (g := (mkF m 1 #[.val (.int xx), .unset, .unset, .unset] [(.int xx)])) rfl (hb hby at_1) _ ?_
    show Steps p.tables e below (s₁.setTop (mkF m 3 #[.val (.int xx), .unset, .unset, .unset] [(.int (2147483647 : Int32)), (.int xx)])) t
    refine XS.iand X0.here hx rfl (hb hby at_3) rfl ?_
    show Steps p.tables e below (s₁.setTop (mkF m 4 #[.val (.int xx), .unset, .unset, .unset] [(.int (xx &&& (2147483647 : Int32)))])) t
    refine XS.bipush X0.here hx rfl (hb hby at_4) ?_
    show Steps p.tables e below (s₁.setTop (mkF m 6 #[.val (.int xx), .unset, .unset, .unset] [(.int (9 : Int32)), (.int (xx &&& (2147483647 : Int32)))])) t
    refine iremM X0 hx rfl (hb hby at_6) rfl (by decide) ?_
    show Steps p.tables e below (s₁.setTop (mkF m 7 #[.val (.int xx), .unset, .unset, .unset] [(.int ((xx &&& (2147483647 : Int32)) % (9 : Int32)))])) t
    refine XS.istoreN X0.here hx rfl (hb hby at_7) rfl (l' := #[.val (.int xx), .val (.int ((xx &&& (2147483647 : Int32)) % (9 : Int32))), .unset, .unset]) rfl ?_
    show Steps p.tables e below (s₁.setTop (mkF m 8 #[.val (.int xx), .val (.int ((xx &&& (2147483647 : Int32)) % (9 : Int32))), .unset, .unset] [])) t
    refine XS.iloadN X0.here hx rfl (hb hby at_8) rfl ?_
    exact kt
  obtain ⟨_, _, ⟨T3, L3, k3, n3⟩, -, X3, ⟨Lc3, hQ3, l3, y3, z3⟩, st3⟩ := Jvm.LawKit.callS X0 hx (y := (⟨"com/example/invariant_to_halt/invarianttohalt/report/KindHoldsWhenSatisfiablePinLaw", "pick", "(I)Lcom/example/invariant_to_halt/invarianttohalt/report/Obligation$Kind;"⟩ : MethodName)) hown (mvT hZ (hw _ (List.mem_of_getElem? (i := 1) rfl))) (mvT hZ (hw _ (List.mem_of_getElem? (i := 2) rfl))) (mvT hZ (hw _ (List.mem_of_getElem? (i := 3) rfl))) (mvT hZ (hw _ (List.mem_of_getElem? (i := 4) rfl))) (by decide) (backOf (W := 0) (own_rm1 l Z a0 hw [] (((xx &&& (2147483647 : Int32)) % (9 : Int32))) (st_INITIATION) (st_CONSECUTION) (st_BOUNDED) (st_DECREASE) (st_NON_INCREASE) (st_PHASE_DECREASE) (st_NO_ERROR) (st_REACHABLE) (st_RECURRENT) h0 n0 Z0 S_INITIATION S_CONSECUTION S_BOUNDED S_DECREASE S_NON_INCREASE S_PHASE_DECREASE S_NO_ERROR S_REACHABLE S_RECURRENT) hZ (hw _ (List.mem_of_getElem? (i := 4) rfl)) (hw _ (List.mem_of_getElem? (i := 3) rfl)) (by decide) (by decide)) (g := (mkF m 9 #[.val (.int xx), .val (.int ((xx &&& (2147483647 : Int32)) % (9 : Int32))), .unset, .unset] [(.int ((xx &&& (2147483647 : Int32)) % (9 : Int32)))])) rfl (by rw [hml]; rfl) (argsL := [(.int ((xx &&& (2147483647 : Int32)) % (9 : Int32)))]) (rest := []) (lenOf own_pd0 rfl) rfl (by show 2 * 0 + _ ≤ _; exact Nat.le_of_eq rfl) (hb hby at_9) (fun _ _ => ⟨rfl, e0, (by decide : 0 + 0 ≤ _), (by decide : 0 + 0 ≤ _)⟩)
  dsimp only [Pt.U, Pt.locs, Pt.cells, Pt.slots] at X3 l3 y3 z3 st3 hQ3
  subst l3 y3 z3
  obtain ⟨rfl, rfl, eq1⟩ := hQ3
  try rw [List.append_nil] at X3
  have S4 : ∀ t, Steps p.tables e below (T3.setTop (mkF m 12 #[.val (.int xx), .val (.int ((xx &&& (2147483647 : Int32)) % (9 : Int32))), .unset, .unset] [(.ref (own_pick ((xx &&& (2147483647 : Int32)) % (9 : Int32)) st_INITIATION st_CONSECUTION st_BOUNDED st_DECREASE st_NON_INCREASE st_PHASE_DECREASE st_NO_ERROR st_REACHABLE st_RECURRENT))])) t → Steps p.tables e below (s₁.setTop (entryFrame m #[(.int xx)] maxLocals)) t := fun t kt => S2 t (st3 _ kt)
  have E_pk : Exa Z h0 (own_pick ((xx &&& (2147483647 : Int32)) % (9 : Int32)) st_INITIATION st_CONSECUTION st_BOUNDED st_DECREASE st_NON_INCREASE st_PHASE_DECREASE st_NO_ERROR st_REACHABLE st_RECURRENT) "com/example/invariant_to_halt/invarianttohalt/report/Obligation$Kind" := own_pick_all (P := fun z => Exa Z h0 z "com/example/invariant_to_halt/invarianttohalt/report/Obligation$Kind") _ st_INITIATION st_CONSECUTION st_BOUNDED st_DECREASE st_NON_INCREASE st_PHASE_DECREASE st_NO_ERROR st_REACHABLE st_RECURRENT E_INITIATION E_CONSECUTION E_BOUNDED E_DECREASE E_NON_INCREASE E_PHASE_DECREASE E_NO_ERROR E_REACHABLE E_RECURRENT
  have S5 : ∀ t, Steps p.tables e below (T3.setTop (mkF m 13 #[.val (.int xx), .val (.int ((xx &&& (2147483647 : Int32)) % (9 : Int32))), .val (.ref (own_pick ((xx &&& (2147483647 : Int32)) % (9 : Int32)) st_INITIATION st_CONSECUTION st_BOUNDED st_DECREASE st_NON_INCREASE st_PHASE_DECREASE st_NO_ERROR st_REACHABLE st_RECURRENT)), .unset] [])) t → Steps p.tables e below (s₁.setTop (entryFrame m #[(.int xx)] maxLocals)) t := fun t kt => by
    refine S4 t ?_
    show Steps p.tables e below (T3.setTop (mkF m 12 #[.val (.int xx), .val (.int ((xx &&& (2147483647 : Int32)) % (9 : Int32))), .unset, .unset] [(.ref (own_pick ((xx &&& (2147483647 : Int32)) % (9 : Int32)) st_INITIATION st_CONSECUTION st_BOUNDED st_DECREASE st_NON_INCREASE st_PHASE_DECREASE st_NO_ERROR st_REACHABLE st_RECURRENT))])) t
    refine XS.astoreN X3.here hx rfl (hb hby at_12) rfl rfl (l' := #[.val (.int xx), .val (.int ((xx &&& (2147483647 : Int32)) % (9 : Int32))), .val (.ref (own_pick ((xx &&& (2147483647 : Int32)) % (9 : Int32)) st_INITIATION st_CONSECUTION st_BOUNDED st_DECREASE st_NON_INCREASE st_PHASE_DECREASE st_NO_ERROR st_REACHABLE st_RECURRENT)), .unset]) rfl ?_
    exact kt
  obtain ⟨T6, b, X6, e6, hr13, S6⟩ : ∃ (T' : State) (b : Int32), own_like X3 T' ∧ T'.heap = h0 ∧ (b = own_b (decide (((xx &&& (2147483647 : Int32)) % (9 : Int32)) = (7 : Int32)))) ∧ (∀ t, Steps p.tables e below (T'.setTop (mkF m 24 #[.val (.int xx), .val (.int ((xx &&& (2147483647 : Int32)) % (9 : Int32))), .val (.ref (own_pick ((xx &&& (2147483647 : Int32)) % (9 : Int32)) st_INITIATION st_CONSECUTION st_BOUNDED st_DECREASE st_NON_INCREASE st_PHASE_DECREASE st_NO_ERROR st_REACHABLE st_RECURRENT)), .unset] [(.int b)])) t → Steps p.tables e below (s₁.setTop (entryFrame m #[(.int xx)] maxLocals)) t) := by
    have S7 : ∀ t, Steps p.tables e below (T3.setTop (mkF m 16 #[.val (.int xx), .val (.int ((xx &&& (2147483647 : Int32)) % (9 : Int32))), .val (.ref (own_pick ((xx &&& (2147483647 : Int32)) % (9 : Int32)) st_INITIATION st_CONSECUTION st_BOUNDED st_DECREASE st_NON_INCREASE st_PHASE_DECREASE st_NO_ERROR st_REACHABLE st_RECURRENT)), .unset] [(.int (7 : Int32)), (.int ((xx &&& (2147483647 : Int32)) % (9 : Int32)))])) t → Steps p.tables e below (s₁.setTop (entryFrame m #[(.int xx)] maxLocals)) t := fun t kt => by
      refine S5 t ?_
      show Steps p.tables e below (T3.setTop (mkF m 13 #[.val (.int xx), .val (.int ((xx &&& (2147483647 : Int32)) % (9 : Int32))), .val (.ref (own_pick ((xx &&& (2147483647 : Int32)) % (9 : Int32)) st_INITIATION st_CONSECUTION st_BOUNDED st_DECREASE st_NON_INCREASE st_PHASE_DECREASE st_NO_ERROR st_REACHABLE st_RECURRENT)), .unset] [])) t
      refine XS.iloadN X3.here hx rfl (hb hby at_13) rfl ?_
      show Steps p.tables e below (T3.setTop (mkF m 14 #[.val (.int xx), .val (.int ((xx &&& (2147483647 : Int32)) % (9 : Int32))), .val (.ref (own_pick ((xx &&& (2147483647 : Int32)) % (9 : Int32)) st_INITIATION st_CONSECUTION st_BOUNDED st_DECREASE st_NON_INCREASE st_PHASE_DECREASE st_NO_ERROR st_REACHABLE st_RECURRENT)), .unset] [(.int ((xx &&& (2147483647 : Int32)) % (9 : Int32)))])) t
      refine XS.bipush X3.here hx rfl (hb hby at_14) ?_
      exact kt
    by_cases hc16 : ((xx &&& (2147483647 : Int32)) % (9 : Int32)) = (7 : Int32)
    · skip
      have S8 : ∀ t, Steps p.tables e below (T3.setTop (mkF m 24 #[.val (.int xx), .val (.int ((xx &&& (2147483647 : Int32)) % (9 : Int32))), .val (.ref (own_pick ((xx &&& (2147483647 : Int32)) % (9 : Int32)) st_INITIATION st_CONSECUTION st_BOUNDED st_DECREASE st_NON_INCREASE st_PHASE_DECREASE st_NO_ERROR st_REACHABLE st_RECURRENT)), .unset] [(.int (1 : Int32))])) t → Steps p.tables e below (s₁.setTop (entryFrame m #[(.int xx)] maxLocals)) t := fun t kt => by
        refine S7 t ?_
        show Steps p.tables e below (T3.setTop (mkF m 16 #[.val (.int xx), .val (.int ((xx &&& (2147483647 : Int32)) % (9 : Int32))), .val (.ref (own_pick ((xx &&& (2147483647 : Int32)) % (9 : Int32)) st_INITIATION st_CONSECUTION st_BOUNDED st_DECREASE st_NON_INCREASE st_PHASE_DECREASE st_NO_ERROR st_REACHABLE st_RECURRENT)), .unset] [(.int (7 : Int32)), (.int ((xx &&& (2147483647 : Int32)) % (9 : Int32)))])) t
        refine XS.icmpNo X3.here hx rfl (hb hby at_16) rfl (teq hc16).2 ?_
        show Steps p.tables e below (T3.setTop (mkF m 19 #[.val (.int xx), .val (.int ((xx &&& (2147483647 : Int32)) % (9 : Int32))), .val (.ref (own_pick ((xx &&& (2147483647 : Int32)) % (9 : Int32)) st_INITIATION st_CONSECUTION st_BOUNDED st_DECREASE st_NON_INCREASE st_PHASE_DECREASE st_NO_ERROR st_REACHABLE st_RECURRENT)), .unset] [])) t
        refine XS.iconst X3.here hx rfl (hb hby at_19) ?_
        show Steps p.tables e below (T3.setTop (mkF m 20 #[.val (.int xx), .val (.int ((xx &&& (2147483647 : Int32)) % (9 : Int32))), .val (.ref (own_pick ((xx &&& (2147483647 : Int32)) % (9 : Int32)) st_INITIATION st_CONSECUTION st_BOUNDED st_DECREASE st_NON_INCREASE st_PHASE_DECREASE st_NO_ERROR st_REACHABLE st_RECURRENT)), .unset] [(.int (1 : Int32))])) t
        refine XS.goto X3.here hx rfl (pc0 := 20) (pc' := 24) rfl (hb hby at_20) (by decide) (by decide) ?_
        exact kt
      exact ⟨T3, ((1 : Int32)), X3, eq1, (own_bt (by simp [*])), S8⟩
    · skip
      have S9 : ∀ t, Steps p.tables e below (T3.setTop (mkF m 24 #[.val (.int xx), .val (.int ((xx &&& (2147483647 : Int32)) % (9 : Int32))), .val (.ref (own_pick ((xx &&& (2147483647 : Int32)) % (9 : Int32)) st_INITIATION st_CONSECUTION st_BOUNDED st_DECREASE st_NON_INCREASE st_PHASE_DECREASE st_NO_ERROR st_REACHABLE st_RECURRENT)), .unset] [(.int (0 : Int32))])) t → Steps p.tables e below (s₁.setTop (entryFrame m #[(.int xx)] maxLocals)) t := fun t kt => by
        refine S7 t ?_
        show Steps p.tables e below (T3.setTop (mkF m 16 #[.val (.int xx), .val (.int ((xx &&& (2147483647 : Int32)) % (9 : Int32))), .val (.ref (own_pick ((xx &&& (2147483647 : Int32)) % (9 : Int32)) st_INITIATION st_CONSECUTION st_BOUNDED st_DECREASE st_NON_INCREASE st_PHASE_DECREASE st_NO_ERROR st_REACHABLE st_RECURRENT)), .unset] [(.int (7 : Int32)), (.int ((xx &&& (2147483647 : Int32)) % (9 : Int32)))])) t
        refine XS.icmpYes X3.here hx rfl (pc0 := 16) (pc' := 23) rfl (hb hby at_16) rfl (feq hc16).2 (by decide) (by decide) ?_
        show Steps p.tables e below (T3.setTop (mkF m 23 #[.val (.int xx), .val (.int ((xx &&& (2147483647 : Int32)) % (9 : Int32))), .val (.ref (own_pick ((xx &&& (2147483647 : Int32)) % (9 : Int32)) st_INITIATION st_CONSECUTION st_BOUNDED st_DECREASE st_NON_INCREASE st_PHASE_DECREASE st_NO_ERROR st_REACHABLE st_RECURRENT)), .unset] [])) t
        refine XS.iconst X3.here hx rfl (hb hby at_23) ?_
        exact kt
      exact ⟨T3, ((0 : Int32)), X3, eq1, (own_bf (by simp [*])), S9⟩
  have S11 : ∀ t, Steps p.tables e below (T6.setTop (mkF m 26 #[.val (.int xx), .val (.int ((xx &&& (2147483647 : Int32)) % (9 : Int32))), .val (.ref (own_pick ((xx &&& (2147483647 : Int32)) % (9 : Int32)) st_INITIATION st_CONSECUTION st_BOUNDED st_DECREASE st_NON_INCREASE st_PHASE_DECREASE st_NO_ERROR st_REACHABLE st_RECURRENT)), .val (.int b)] [(.ref (own_pick ((xx &&& (2147483647 : Int32)) % (9 : Int32)) st_INITIATION st_CONSECUTION st_BOUNDED st_DECREASE st_NON_INCREASE st_PHASE_DECREASE st_NO_ERROR st_REACHABLE st_RECURRENT))])) t → Steps p.tables e below (s₁.setTop (entryFrame m #[(.int xx)] maxLocals)) t := fun t kt => by
    refine S6 t ?_
    show Steps p.tables e below (T6.setTop (mkF m 24 #[.val (.int xx), .val (.int ((xx &&& (2147483647 : Int32)) % (9 : Int32))), .val (.ref (own_pick ((xx &&& (2147483647 : Int32)) % (9 : Int32)) st_INITIATION st_CONSECUTION st_BOUNDED st_DECREASE st_NON_INCREASE st_PHASE_DECREASE st_NO_ERROR st_REACHABLE st_RECURRENT)), .unset] [(.int b)])) t
    refine XS.istoreN X6.here hx rfl (hb hby at_24) rfl (l' := #[.val (.int xx), .val (.int ((xx &&& (2147483647 : Int32)) % (9 : Int32))), .val (.ref (own_pick ((xx &&& (2147483647 : Int32)) % (9 : Int32)) st_INITIATION st_CONSECUTION st_BOUNDED st_DECREASE st_NON_INCREASE st_PHASE_DECREASE st_NO_ERROR st_REACHABLE st_RECURRENT)), .val (.int b)]) rfl ?_
    show Steps p.tables e below (T6.setTop (mkF m 25 #[.val (.int xx), .val (.int ((xx &&& (2147483647 : Int32)) % (9 : Int32))), .val (.ref (own_pick ((xx &&& (2147483647 : Int32)) % (9 : Int32)) st_INITIATION st_CONSECUTION st_BOUNDED st_DECREASE st_NON_INCREASE st_PHASE_DECREASE st_NO_ERROR st_REACHABLE st_RECURRENT)), .val (.int b)] [])) t
    refine XS.aloadN X6.here hx rfl (hb hby at_25) rfl rfl ?_
    exact kt
  obtain ⟨cq12, kq12, q12a, q12b, q12c⟩ := isOf hZ e6 E_pk
  obtain ⟨_, _, ⟨T12, L12, k12, n12⟩, -, X12, ⟨Lc12, hQ12, l12, y12, z12⟩, st12⟩ := X6.virtualBack hx (y := (⟨"com/example/invariant_to_halt/invarianttohalt/report/Obligation$Kind", "holdsWhenSatisfiable", "()Z"⟩ : MethodName)) (z := (⟨"com/example/invariant_to_halt/invarianttohalt/report/Obligation$Kind", "holdsWhenSatisfiable", "()Z"⟩ : MethodName)) hown (mvT hZ (hw _ (List.mem_of_getElem? (i := 8) rfl))) (mvT hZ (hw _ (List.mem_of_getElem? (i := 9) rfl))) (notFace_of_selects (args := #[]) (mvT hZ (hw _ (List.mem_of_getElem? (i := 11) rfl)))) (mvT hZ (hw _ (List.mem_of_getElem? (i := 11) rfl))) (mvT hZ (hw _ (List.mem_of_getElem? (i := 10) rfl))) (by decide) (backOf (W := 0) (own_rm2 l Z a0 hw [] ((own_pick ((xx &&& (2147483647 : Int32)) % (9 : Int32)) st_INITIATION st_CONSECUTION st_BOUNDED st_DECREASE st_NON_INCREASE st_PHASE_DECREASE st_NO_ERROR st_REACHABLE st_RECURRENT)) (st_REACHABLE) h0 n0 Z0 S_REACHABLE) hZ (hw _ (List.mem_of_getElem? (i := 12) rfl)) (hw _ (List.mem_of_getElem? (i := 6) rfl)) (by decide) (by decide)) q12a q12c (g := (mkF m 26 #[.val (.int xx), .val (.int ((xx &&& (2147483647 : Int32)) % (9 : Int32))), .val (.ref (own_pick ((xx &&& (2147483647 : Int32)) % (9 : Int32)) st_INITIATION st_CONSECUTION st_BOUNDED st_DECREASE st_NON_INCREASE st_PHASE_DECREASE st_NO_ERROR st_REACHABLE st_RECURRENT)), .val (.int b)] [(.ref (own_pick ((xx &&& (2147483647 : Int32)) % (9 : Int32)) st_INITIATION st_CONSECUTION st_BOUNDED st_DECREASE st_NON_INCREASE st_PHASE_DECREASE st_NO_ERROR st_REACHABLE st_RECURRENT))])) rfl (by rw [hml]; rfl) (Steps.refl _) (argsL := []) (rest := []) (lenOf own_pd1 rfl) rfl (by show 2 * 0 + _ ≤ _; exact Nat.le_of_eq rfl) (hb hby at_26) (fun _ _ => ⟨rfl, e6, (by decide : 0 + 0 ≤ _), (by decide : 0 + 0 ≤ _)⟩)
  dsimp only [Pt.U, Pt.locs, Pt.cells, Pt.slots] at X12 l12 y12 z12 st12 hQ12
  subst l12 y12 z12
  obtain ⟨rfl, rfl, eq10⟩ := hQ12
  try rw [List.append_nil] at X12
  have S13 : ∀ t, Steps p.tables e below (T12.setTop (mkF m 29 #[.val (.int xx), .val (.int ((xx &&& (2147483647 : Int32)) % (9 : Int32))), .val (.ref (own_pick ((xx &&& (2147483647 : Int32)) % (9 : Int32)) st_INITIATION st_CONSECUTION st_BOUNDED st_DECREASE st_NON_INCREASE st_PHASE_DECREASE st_NO_ERROR st_REACHABLE st_RECURRENT)), .val (.int b)] [(.int (own_b (decide ((own_pick ((xx &&& (2147483647 : Int32)) % (9 : Int32)) st_INITIATION st_CONSECUTION st_BOUNDED st_DECREASE st_NON_INCREASE st_PHASE_DECREASE st_NO_ERROR st_REACHABLE st_RECURRENT) = st_REACHABLE))))])) t → Steps p.tables e below (s₁.setTop (entryFrame m #[(.int xx)] maxLocals)) t := fun t kt => S11 t (st12.trans kt)
  have S14 : ∀ t, Steps p.tables e below (T12.setTop (mkF m 30 #[.val (.int xx), .val (.int ((xx &&& (2147483647 : Int32)) % (9 : Int32))), .val (.ref (own_pick ((xx &&& (2147483647 : Int32)) % (9 : Int32)) st_INITIATION st_CONSECUTION st_BOUNDED st_DECREASE st_NON_INCREASE st_PHASE_DECREASE st_NO_ERROR st_REACHABLE st_RECURRENT)), .val (.int b)] [(.int b), (.int (own_b (decide ((own_pick ((xx &&& (2147483647 : Int32)) % (9 : Int32)) st_INITIATION st_CONSECUTION st_BOUNDED st_DECREASE st_NON_INCREASE st_PHASE_DECREASE st_NO_ERROR st_REACHABLE st_RECURRENT) = st_REACHABLE))))])) t → Steps p.tables e below (s₁.setTop (entryFrame m #[(.int xx)] maxLocals)) t := fun t kt => by
    refine S13 t ?_
    show Steps p.tables e below (T12.setTop (mkF m 29 #[.val (.int xx), .val (.int ((xx &&& (2147483647 : Int32)) % (9 : Int32))), .val (.ref (own_pick ((xx &&& (2147483647 : Int32)) % (9 : Int32)) st_INITIATION st_CONSECUTION st_BOUNDED st_DECREASE st_NON_INCREASE st_PHASE_DECREASE st_NO_ERROR st_REACHABLE st_RECURRENT)), .val (.int b)] [(.int (own_b (decide ((own_pick ((xx &&& (2147483647 : Int32)) % (9 : Int32)) st_INITIATION st_CONSECUTION st_BOUNDED st_DECREASE st_NON_INCREASE st_PHASE_DECREASE st_NO_ERROR st_REACHABLE st_RECURRENT) = st_REACHABLE))))])) t
    refine XS.iloadN X12.here hx rfl (hb hby at_29) rfl ?_
    exact kt
  have hc30_15 : (own_b (decide ((own_pick ((xx &&& (2147483647 : Int32)) % (9 : Int32)) st_INITIATION st_CONSECUTION st_BOUNDED st_DECREASE st_NON_INCREASE st_PHASE_DECREASE st_NO_ERROR st_REACHABLE st_RECURRENT) = st_REACHABLE))) = b := by rw [hr13]; exact own_plain _ st_INITIATION st_CONSECUTION st_BOUNDED st_DECREASE st_NON_INCREASE st_PHASE_DECREASE st_NO_ERROR st_REACHABLE st_RECURRENT n_INITIATION n_CONSECUTION n_BOUNDED n_DECREASE n_NON_INCREASE n_PHASE_DECREASE n_NO_ERROR n_RECURRENT
  have S16 : ∀ t, Steps p.tables e below (T12.setTop (mkF m 38 #[.val (.int xx), .val (.int ((xx &&& (2147483647 : Int32)) % (9 : Int32))), .val (.ref (own_pick ((xx &&& (2147483647 : Int32)) % (9 : Int32)) st_INITIATION st_CONSECUTION st_BOUNDED st_DECREASE st_NON_INCREASE st_PHASE_DECREASE st_NO_ERROR st_REACHABLE st_RECURRENT)), .val (.int b)] [(.int (1 : Int32))])) t → Steps p.tables e below (s₁.setTop (entryFrame m #[(.int xx)] maxLocals)) t := fun t kt => by
    refine S14 t ?_
    show Steps p.tables e below (T12.setTop (mkF m 30 #[.val (.int xx), .val (.int ((xx &&& (2147483647 : Int32)) % (9 : Int32))), .val (.ref (own_pick ((xx &&& (2147483647 : Int32)) % (9 : Int32)) st_INITIATION st_CONSECUTION st_BOUNDED st_DECREASE st_NON_INCREASE st_PHASE_DECREASE st_NO_ERROR st_REACHABLE st_RECURRENT)), .val (.int b)] [(.int b), (.int (own_b (decide ((own_pick ((xx &&& (2147483647 : Int32)) % (9 : Int32)) st_INITIATION st_CONSECUTION st_BOUNDED st_DECREASE st_NON_INCREASE st_PHASE_DECREASE st_NO_ERROR st_REACHABLE st_RECURRENT) = st_REACHABLE))))])) t
    refine XS.icmpNo X12.here hx rfl (hb hby at_30) rfl (teq hc30_15).2 ?_
    show Steps p.tables e below (T12.setTop (mkF m 33 #[.val (.int xx), .val (.int ((xx &&& (2147483647 : Int32)) % (9 : Int32))), .val (.ref (own_pick ((xx &&& (2147483647 : Int32)) % (9 : Int32)) st_INITIATION st_CONSECUTION st_BOUNDED st_DECREASE st_NON_INCREASE st_PHASE_DECREASE st_NO_ERROR st_REACHABLE st_RECURRENT)), .val (.int b)] [])) t
    refine XS.iconst X12.here hx rfl (hb hby at_33) ?_
    show Steps p.tables e below (T12.setTop (mkF m 34 #[.val (.int xx), .val (.int ((xx &&& (2147483647 : Int32)) % (9 : Int32))), .val (.ref (own_pick ((xx &&& (2147483647 : Int32)) % (9 : Int32)) st_INITIATION st_CONSECUTION st_BOUNDED st_DECREASE st_NON_INCREASE st_PHASE_DECREASE st_NO_ERROR st_REACHABLE st_RECURRENT)), .val (.int b)] [(.int (1 : Int32))])) t
    refine XS.goto X12.here hx rfl (pc0 := 34) (pc' := 38) rfl (hb hby at_34) (by decide) (by decide) ?_
    exact kt
  obtain ⟨fs, hr, hrun, hended, hW, hsame⟩ := X12.leave (v := some (.int (nar .boolean (1 : Int32)))) (fun h => by rw [Bd.returns] at h; cases h)
  refine ⟨_, _, S16 _ ?_, hrun, hended, _, _, rfl, ?_, ⟨_, rfl⟩, hW, hsame.mono (by decide) (by decide)⟩
  · show Steps p.tables e below (T12.setTop (mkF m 38 #[.val (.int xx), .val (.int ((xx &&& (2147483647 : Int32)) % (9 : Int32))), .val (.ref (own_pick ((xx &&& (2147483647 : Int32)) % (9 : Int32)) st_INITIATION st_CONSECUTION st_BOUNDED st_DECREASE st_NON_INCREASE st_PHASE_DECREASE st_NO_ERROR st_REACHABLE st_RECURRENT)), .val (.int b)] [(.int (1 : Int32))])) _
    exact retN X12 hx (t := .boolean) Bd.returns (by simp) (hb hby at_38) hr
  · show own_Q0 Z xx st_INITIATION st_CONSECUTION st_BOUNDED st_DECREASE st_NON_INCREASE st_PHASE_DECREASE st_NO_ERROR st_REACHABLE st_RECURRENT h0 n0 _ T12.heap _
    rw [eq10]
    exact ⟨rfl, N0⟩
set_option maxHeartbeats 40000000 in
theorem own_comes {Post : Tables → Env → Array Value → State → Outcome → State → Prop} (hpost : ∀ tb e args s v u, (limb_1_1.after args s (.returned v) u = true ∧ limb_1_2.after args s (.returned v) u = true ∧ True) → FrameEnd s (.returned v) u (Jvm.fieldLocs frame_1_writes args s ++ Jvm.arrayLocs frame_1_arrays args s ++ Jvm.staticLocs frame_1_statics s) 0 0 → Post tb e args s (.returned v) u) :
    ArmFor flags0 classFile x code maxLocals ret World_1 tables_1 room_1 Calls_1 rest_1 Pre_1 Post := by
  intro l hfl _ _ p e ha hc hk s m args below hf hA hF happ hP
  obtain ⟨hcalls, hrest, hpre⟩ := hP
  obtain ⟨-, -, -, hnamed, -, -, -, hat⟩ := (Spec.applies_iff hf).mp happ
  obtain ⟨hg, hn⟩ := and_e (Cond.before_iff.mp (show (Jvm.Cond.and given_1 narrow_1).before args s = true from hpre))
  obtain ⟨g1, g2⟩ := and_e hg
  obtain ⟨g3, g4⟩ := and_e hn
  obtain ⟨g5, g6⟩ := and_e g4
  obtain ⟨g7, g8⟩ := and_e g6
  obtain ⟨g9, g10⟩ := and_e g8
  obtain ⟨g11, g12⟩ := and_e g10
  obtain ⟨g13, g14⟩ := and_e g12
  obtain ⟨g15, g16⟩ := and_e g14
  obtain ⟨g17, g18⟩ := and_e g16
  obtain ⟨g19, g20⟩ := and_e g18
  obtain ⟨g21, g22⟩ := and_e g20
  obtain ⟨g23, g24⟩ := and_e g22
  obtain ⟨g25, g26⟩ := and_e g24
  obtain ⟨g27, g28⟩ := and_e g26
  obtain ⟨g29, g30⟩ := and_e g28
  obtain ⟨g31, g32⟩ := and_e g30
  obtain ⟨g33, g34⟩ := and_e g32
  obtain ⟨g35, g36⟩ := and_e g34
  obtain ⟨w0, rfl⟩ : ∃ w0 : Value, args = #[w0] := by
    have hs : args.size = 1 := by simpa [Cond.value, given_1] using g1
    obtain ⟨L⟩ := args
    match L, hs with
    | [w0], _ => exact ⟨w0, rfl⟩
  have hw := fun d (hd : d ∈ tables_1) => atoms_spec (ws := Jvm.Cond.code x code maxLocals ret :: tables_1) hat d (List.mem_cons_of_mem _ hd)
  have hfit : Fit s := fun {y c} hc i hi => by
    obtain ⟨ha, rfl⟩ := Array.getElem?_eq_some_iff.mp hc
    have q := List.all_eq_true.mp ((Array.all_eq_true_iff_forall_mem.mp hF) _ (Array.getElem_mem ha)) i (List.mem_range.mpr hi)
    simpa [Array.getElem?_eq_getElem hi] using q
  obtain ⟨i0, ei0⟩ := is_v g2
  obtain rfl : w0 = (.int i0) := Option.some.inj ei0
  obtain ⟨st_INITIATION, ev_INITIATION⟩ := exa_v g3
  have S_INITIATION : Sta s s.heap "com/example/invariant_to_halt/invarianttohalt/report/Obligation$Kind" "INITIATION" "Lcom/example/invariant_to_halt/invarianttohalt/report/Obligation$Kind;" (.ref st_INITIATION) := Sta.start ev_INITIATION (Or.inr ⟨(hw _ (List.mem_of_getElem? (i := 6) rfl)), (hw _ (List.mem_of_getElem? (i := 7) rfl))⟩)
  have E_INITIATION : Exa s s.heap st_INITIATION "com/example/invariant_to_halt/invarianttohalt/report/Obligation$Kind" := Exa.start ev_INITIATION g3
  obtain ⟨st_REACHABLE, ev_REACHABLE⟩ := exa_v g5
  have S_REACHABLE : Sta s s.heap "com/example/invariant_to_halt/invarianttohalt/report/Obligation$Kind" "REACHABLE" "Lcom/example/invariant_to_halt/invarianttohalt/report/Obligation$Kind;" (.ref st_REACHABLE) := Sta.start ev_REACHABLE (Or.inr ⟨(hw _ (List.mem_of_getElem? (i := 6) rfl)), (hw _ (List.mem_of_getElem? (i := 14) rfl))⟩)
  have E_REACHABLE : Exa s s.heap st_REACHABLE "com/example/invariant_to_halt/invarianttohalt/report/Obligation$Kind" := Exa.start ev_REACHABLE g5
  obtain ⟨st_DECREASE, ev_DECREASE⟩ := exa_v g11
  have S_DECREASE : Sta s s.heap "com/example/invariant_to_halt/invarianttohalt/report/Obligation$Kind" "DECREASE" "Lcom/example/invariant_to_halt/invarianttohalt/report/Obligation$Kind;" (.ref st_DECREASE) := Sta.start ev_DECREASE (Or.inr ⟨(hw _ (List.mem_of_getElem? (i := 6) rfl)), (hw _ (List.mem_of_getElem? (i := 16) rfl))⟩)
  have E_DECREASE : Exa s s.heap st_DECREASE "com/example/invariant_to_halt/invarianttohalt/report/Obligation$Kind" := Exa.start ev_DECREASE g11
  obtain ⟨st_BOUNDED, ev_BOUNDED⟩ := exa_v g15
  have S_BOUNDED : Sta s s.heap "com/example/invariant_to_halt/invarianttohalt/report/Obligation$Kind" "BOUNDED" "Lcom/example/invariant_to_halt/invarianttohalt/report/Obligation$Kind;" (.ref st_BOUNDED) := Sta.start ev_BOUNDED (Or.inr ⟨(hw _ (List.mem_of_getElem? (i := 6) rfl)), (hw _ (List.mem_of_getElem? (i := 18) rfl))⟩)
  have E_BOUNDED : Exa s s.heap st_BOUNDED "com/example/invariant_to_halt/invarianttohalt/report/Obligation$Kind" := Exa.start ev_BOUNDED g15
  obtain ⟨st_CONSECUTION, ev_CONSECUTION⟩ := exa_v g19
  have S_CONSECUTION : Sta s s.heap "com/example/invariant_to_halt/invarianttohalt/report/Obligation$Kind" "CONSECUTION" "Lcom/example/invariant_to_halt/invarianttohalt/report/Obligation$Kind;" (.ref st_CONSECUTION) := Sta.start ev_CONSECUTION (Or.inr ⟨(hw _ (List.mem_of_getElem? (i := 6) rfl)), (hw _ (List.mem_of_getElem? (i := 20) rfl))⟩)
  have E_CONSECUTION : Exa s s.heap st_CONSECUTION "com/example/invariant_to_halt/invarianttohalt/report/Obligation$Kind" := Exa.start ev_CONSECUTION g19
  obtain ⟨st_NON_INCREASE, ev_NON_INCREASE⟩ := exa_v g23
  have S_NON_INCREASE : Sta s s.heap "com/example/invariant_to_halt/invarianttohalt/report/Obligation$Kind" "NON_INCREASE" "Lcom/example/invariant_to_halt/invarianttohalt/report/Obligation$Kind;" (.ref st_NON_INCREASE) := Sta.start ev_NON_INCREASE (Or.inr ⟨(hw _ (List.mem_of_getElem? (i := 6) rfl)), (hw _ (List.mem_of_getElem? (i := 23) rfl))⟩)
  have E_NON_INCREASE : Exa s s.heap st_NON_INCREASE "com/example/invariant_to_halt/invarianttohalt/report/Obligation$Kind" := Exa.start ev_NON_INCREASE g23
  obtain ⟨st_RECURRENT, ev_RECURRENT⟩ := exa_v g27
  have S_RECURRENT : Sta s s.heap "com/example/invariant_to_halt/invarianttohalt/report/Obligation$Kind" "RECURRENT" "Lcom/example/invariant_to_halt/invarianttohalt/report/Obligation$Kind;" (.ref st_RECURRENT) := Sta.start ev_RECURRENT (Or.inr ⟨(hw _ (List.mem_of_getElem? (i := 6) rfl)), (hw _ (List.mem_of_getElem? (i := 25) rfl))⟩)
  have E_RECURRENT : Exa s s.heap st_RECURRENT "com/example/invariant_to_halt/invarianttohalt/report/Obligation$Kind" := Exa.start ev_RECURRENT g27
  obtain ⟨st_NO_ERROR, ev_NO_ERROR⟩ := exa_v g31
  have S_NO_ERROR : Sta s s.heap "com/example/invariant_to_halt/invarianttohalt/report/Obligation$Kind" "NO_ERROR" "Lcom/example/invariant_to_halt/invarianttohalt/report/Obligation$Kind;" (.ref st_NO_ERROR) := Sta.start ev_NO_ERROR (Or.inr ⟨(hw _ (List.mem_of_getElem? (i := 6) rfl)), (hw _ (List.mem_of_getElem? (i := 27) rfl))⟩)
  have E_NO_ERROR : Exa s s.heap st_NO_ERROR "com/example/invariant_to_halt/invarianttohalt/report/Obligation$Kind" := Exa.start ev_NO_ERROR g31
  obtain ⟨st_PHASE_DECREASE, ev_PHASE_DECREASE⟩ := exa_v g35
  have S_PHASE_DECREASE : Sta s s.heap "com/example/invariant_to_halt/invarianttohalt/report/Obligation$Kind" "PHASE_DECREASE" "Lcom/example/invariant_to_halt/invarianttohalt/report/Obligation$Kind;" (.ref st_PHASE_DECREASE) := Sta.start ev_PHASE_DECREASE (Or.inr ⟨(hw _ (List.mem_of_getElem? (i := 6) rfl)), (hw _ (List.mem_of_getElem? (i := 29) rfl))⟩)
  have E_PHASE_DECREASE : Exa s s.heap st_PHASE_DECREASE "com/example/invariant_to_halt/invarianttohalt/report/Obligation$Kind" := Exa.start ev_PHASE_DECREASE g35
  have F_INITIATION_ordinal : Fld s s.heap st_INITIATION "java/lang/Enum" "ordinal" "I" (.int (0 : Int32)) := by
    obtain ⟨vx, vy, ex, ey, kx, ky⟩ := cmp_v (Or.inl g7)
    obtain rfl : vy = .int (0 : Int32) := (Option.some.inj ey).symm
    obtain ⟨vz, rfl⟩ := ky
    have hq := gotT (Cond.eq_ints ex ey) g7
    subst hq
    exact Fld.start ((fld_at ev_INITIATION).symm.trans ex)
  have F_REACHABLE_ordinal : Fld s s.heap st_REACHABLE "java/lang/Enum" "ordinal" "I" (.int (7 : Int32)) := by
    obtain ⟨vx, vy, ex, ey, kx, ky⟩ := cmp_v (Or.inl g9)
    obtain rfl : vy = .int (7 : Int32) := (Option.some.inj ey).symm
    obtain ⟨vz, rfl⟩ := ky
    have hq := gotT (Cond.eq_ints ex ey) g9
    subst hq
    exact Fld.start ((fld_at ev_REACHABLE).symm.trans ex)
  have F_DECREASE_ordinal : Fld s s.heap st_DECREASE "java/lang/Enum" "ordinal" "I" (.int (3 : Int32)) := by
    obtain ⟨vx, vy, ex, ey, kx, ky⟩ := cmp_v (Or.inl g13)
    obtain rfl : vy = .int (3 : Int32) := (Option.some.inj ey).symm
    obtain ⟨vz, rfl⟩ := ky
    have hq := gotT (Cond.eq_ints ex ey) g13
    subst hq
    exact Fld.start ((fld_at ev_DECREASE).symm.trans ex)
  have F_BOUNDED_ordinal : Fld s s.heap st_BOUNDED "java/lang/Enum" "ordinal" "I" (.int (2 : Int32)) := by
    obtain ⟨vx, vy, ex, ey, kx, ky⟩ := cmp_v (Or.inl g17)
    obtain rfl : vy = .int (2 : Int32) := (Option.some.inj ey).symm
    obtain ⟨vz, rfl⟩ := ky
    have hq := gotT (Cond.eq_ints ex ey) g17
    subst hq
    exact Fld.start ((fld_at ev_BOUNDED).symm.trans ex)
  have F_CONSECUTION_ordinal : Fld s s.heap st_CONSECUTION "java/lang/Enum" "ordinal" "I" (.int (1 : Int32)) := by
    obtain ⟨vx, vy, ex, ey, kx, ky⟩ := cmp_v (Or.inl g21)
    obtain rfl : vy = .int (1 : Int32) := (Option.some.inj ey).symm
    obtain ⟨vz, rfl⟩ := ky
    have hq := gotT (Cond.eq_ints ex ey) g21
    subst hq
    exact Fld.start ((fld_at ev_CONSECUTION).symm.trans ex)
  have F_NON_INCREASE_ordinal : Fld s s.heap st_NON_INCREASE "java/lang/Enum" "ordinal" "I" (.int (4 : Int32)) := by
    obtain ⟨vx, vy, ex, ey, kx, ky⟩ := cmp_v (Or.inl g25)
    obtain rfl : vy = .int (4 : Int32) := (Option.some.inj ey).symm
    obtain ⟨vz, rfl⟩ := ky
    have hq := gotT (Cond.eq_ints ex ey) g25
    subst hq
    exact Fld.start ((fld_at ev_NON_INCREASE).symm.trans ex)
  have F_RECURRENT_ordinal : Fld s s.heap st_RECURRENT "java/lang/Enum" "ordinal" "I" (.int (8 : Int32)) := by
    obtain ⟨vx, vy, ex, ey, kx, ky⟩ := cmp_v (Or.inl g29)
    obtain rfl : vy = .int (8 : Int32) := (Option.some.inj ey).symm
    obtain ⟨vz, rfl⟩ := ky
    have hq := gotT (Cond.eq_ints ex ey) g29
    subst hq
    exact Fld.start ((fld_at ev_RECURRENT).symm.trans ex)
  have F_NO_ERROR_ordinal : Fld s s.heap st_NO_ERROR "java/lang/Enum" "ordinal" "I" (.int (6 : Int32)) := by
    obtain ⟨vx, vy, ex, ey, kx, ky⟩ := cmp_v (Or.inl g33)
    obtain rfl : vy = .int (6 : Int32) := (Option.some.inj ey).symm
    obtain ⟨vz, rfl⟩ := ky
    have hq := gotT (Cond.eq_ints ex ey) g33
    subst hq
    exact Fld.start ((fld_at ev_NO_ERROR).symm.trans ex)
  have F_PHASE_DECREASE_ordinal : Fld s s.heap st_PHASE_DECREASE "java/lang/Enum" "ordinal" "I" (.int (5 : Int32)) := by
    obtain ⟨vx, vy, ex, ey, kx, ky⟩ := cmp_v (Or.inl g36)
    obtain rfl : vy = .int (5 : Int32) := (Option.some.inj ey).symm
    obtain ⟨vz, rfl⟩ := ky
    have hq := gotT (Cond.eq_ints ex ey) g36
    subst hq
    exact Fld.start ((fld_at ev_PHASE_DECREASE).symm.trans ex)
  obtain ⟨n, o, h1, h2, h3, _, L, rfl, ⟨rfl, N⟩, hq⟩ := own_rm0 l s _ hw tables_1 i0 st_INITIATION st_CONSECUTION st_BOUNDED st_DECREASE st_NON_INCREASE st_PHASE_DECREASE st_NO_ERROR st_REACHABLE st_RECURRENT s.heap s.heap.size (Nat.le_refl _) S_INITIATION S_CONSECUTION S_BOUNDED S_DECREASE S_NON_INCREASE S_PHASE_DECREASE S_NO_ERROR S_REACHABLE S_RECURRENT E_INITIATION E_CONSECUTION E_BOUNDED E_DECREASE E_NON_INCREASE E_PHASE_DECREASE E_NO_ERROR E_REACHABLE E_RECURRENT (fun q => Fld.ne F_INITIATION_ordinal F_REACHABLE_ordinal (fun q => absurd (Value.int.inj q) (by decide)) q) (fun q => Fld.ne F_CONSECUTION_ordinal F_REACHABLE_ordinal (fun q => absurd (Value.int.inj q) (by decide)) q) (fun q => Fld.ne F_BOUNDED_ordinal F_REACHABLE_ordinal (fun q => absurd (Value.int.inj q) (by decide)) q) (fun q => Fld.ne F_DECREASE_ordinal F_REACHABLE_ordinal (fun q => absurd (Value.int.inj q) (by decide)) q) (fun q => Fld.ne F_NON_INCREASE_ordinal F_REACHABLE_ordinal (fun q => absurd (Value.int.inj q) (by decide)) q) (fun q => Fld.ne F_PHASE_DECREASE_ordinal F_REACHABLE_ordinal (fun q => absurd (Value.int.inj q) (by decide)) q) (fun q => Fld.ne F_NO_ERROR_ordinal F_REACHABLE_ordinal (fun q => absurd (Value.int.inj q) (by decide)) q) (fun q => Fld.ne F_RECURRENT_ordinal F_REACHABLE_ordinal (fun q => absurd (Value.int.inj q) (by decide)) q) p e ha hc hk s m _ below hf ((Spec.applies_iff_loose hf).mp happ).1 ⟨rfl, State.Warmed39.refl s, rfl⟩ trivial
  refine ⟨n, _, h1, h2, h3, hpost _ _ _ _ _ _ ⟨Cond.after_iff.mpr rfl, Cond.after_iff.mpr (eq_i res_at (Term.int_eval (1)) rfl), trivial⟩ ⟨hq.1, hq.2.1, (hq.2.2.sift fun y hy => Or.inr (N y hy)).mono (by decide) (by decide)⟩⟩
theorem main_1_1 : Claimed_1_1 := own_comes fun _ _ _ _ _ _ h hF => ⟨h.1, hF⟩
theorem main_1_2 : Claimed_1_2 := own_comes fun _ _ _ _ _ _ h hF => ⟨h.2.1, hF⟩
end Jvm.Pilot.@@N@@
namespace Jvm.Pilot.@@N@@
open Jvm Jvm.ClassFile Sem Op Lib Jvm.Free Jvm.Stand Jvm.Pilot.@@N@@.Jvm.D
/-! MADE BY PROGRAM (witnessworld.py) out of the Statement's table words and the real class files: 12 classes; the members and pool entries that the words name. The judged class is class 1, her method 2. -/
namespace start1
open Jvm.ClassFile
def u (s : String) : CpInfo := .utf8 (stringToUtf16 s)
/-- a pool by its gaps: so many unusable entries, then the entry; so many at the end -/
def gap : Nat → List CpInfo → List CpInfo
  | 0, r => r
  | n + 1, r => .unusable :: gap n r
def poolList (es : List (Nat × CpInfo)) (last : Nat) : List CpInfo := es.foldr (fun e r => gap e.1 (e.2 :: r)) (gap last [])
def pool (es : List (Nat × CpInfo)) (last : Nat) : Array CpInfo := ⟨poolList es last⟩
def fileOf (pool : Array CpInfo) (this : Nat) (attrs : Array Attribute := #[]) (ms : Array MethodInfo := #[]) (fl : Nat := 33) (sup : Nat := 0) (ifs : Array Nat := #[]) (fds : Array FieldInfo := #[]) : ClassFile where
  minorVersion := 0
  majorVersion := 65
  constantPool := pool
  accessFlags := fl
  thisClass := this
  superClass := sup
  interfaces := ifs
  fields := fds
  methods := ms
  attributes := attrs
def plain (name : String) (sup : Option ClassId) : Class where
  name := name
  kind := .ordinary
  loader := none
  accessFlags := 33
  super := sup
  interfaces := #[]
  cf := none
  fields := #[]
  methods := #[]
  instanceTypes := #[]
  staticTypes := #[]
  resolved := #[]
  callSites := []
  init := .initialized
  statics := none
  mirror := none

def pool0 : Array CpInfo := pool [(5, u "<init>"), (0, u "()V"), (1, .class_ 10), (1, u "java/lang/Object")] 113

def k0m0 : Method := { name := "<init>", desc := "()V", sig := { parameters := [], returnType := none }, accessFlags := 1, code := none }
/-- java/lang/Object -/
def k0 : Class := { plain "java/lang/Object" none with
  accessFlags := 33
  interfaces := #[]
  cf := some (fileOf pool0 8 #[] #[{ accessFlags := 1, nameIndex := 5, descriptorIndex := 6, attributes := #[] }] 33 0 #[] #[])
  fields := #[]
  methods := #[k0m0]
  instanceTypes := #[]
  staticTypes := #[]
  resolved := Array.replicate 124 none
  statics := none }

def pool1 : Array CpInfo := pool [(2, .class_ 4), (1, u "java/lang/Object"), (0, u "<init>"), (0, u "()V"), (0, .fieldref 8 9), (0, .class_ 10), (0, .nameAndType 11 12), (0, u "com/example/invariant_to_halt/invarianttohalt/report/Obligation$Kind"), (0, u "INITIATION"), (0, u "Lcom/example/invariant_to_halt/invarianttohalt/report/Obligation$Kind;"), (0, .fieldref 8 14), (0, .nameAndType 15 12), (0, u "CONSECUTION"), (0, .fieldref 8 17), (0, .nameAndType 18 12), (0, u "BOUNDED"), (0, .fieldref 8 20), (0, .nameAndType 21 12), (0, u "DECREASE"), (0, .fieldref 8 23), (0, .nameAndType 24 12), (0, u "NON_INCREASE"), (0, .fieldref 8 26), (0, .nameAndType 27 12), (0, u "PHASE_DECREASE"), (0, .fieldref 8 29), (0, .nameAndType 30 12), (0, u "NO_ERROR"), (0, .fieldref 8 32), (0, .nameAndType 33 12), (0, u "REACHABLE"), (0, .fieldref 8 35), (0, .nameAndType 36 12), (0, u "RECURRENT"), (0, .integer 2147483647), (0, .methodref 39 40), (0, .class_ 41), (0, .nameAndType 42 43), (0, u "com/example/invariant_to_halt/invarianttohalt/report/KindHoldsWhenSatisfiablePinLaw"), (0, u "pick"), (0, u "(I)Lcom/example/invariant_to_halt/invarianttohalt/report/Obligation$Kind;"), (0, .methodref 8 45), (0, .nameAndType 46 47), (0, u "holdsWhenSatisfiable"), (0, u "()Z"), (3, u "law"), (0, u "(I)Z")] 6

def k1m0 : Method := { name := "<init>", desc := "()V", sig := { parameters := [], returnType := none }, accessFlags := 2, code := none }
def k1c1 : Code := { maxStack := 2, maxLocals := 1, code := method_2_code, exceptionTable := #[], attributes := #[] }
def k1m1 : Method := { name := "pick", desc := "(I)Lcom/example/invariant_to_halt/invarianttohalt/report/Obligation$Kind;", sig := { parameters := [.int], returnType := some (.object "com/example/invariant_to_halt/invarianttohalt/report/Obligation$Kind") }, accessFlags := 10, code := some k1c1 }
def k1c2 : Code := { maxStack := 2, maxLocals := 4, code := code, exceptionTable := #[], attributes := #[] }
def k1m2 : Method := { name := "law", desc := "(I)Z", sig := { parameters := [.int], returnType := some .boolean }, accessFlags := 9, code := some k1c2 }
/-- com/example/invariant_to_halt/invarianttohalt/report/KindHoldsWhenSatisfiablePinLaw -/
def k1 : Class := { plain "com/example/invariant_to_halt/invarianttohalt/report/KindHoldsWhenSatisfiablePinLaw" (some 0) with
  accessFlags := 49
  interfaces := #[]
  cf := some (fileOf pool1 39 #[] #[{ accessFlags := 2, nameIndex := 5, descriptorIndex := 6, attributes := #[] }, { accessFlags := 10, nameIndex := 42, descriptorIndex := 43, attributes := #[] }, { accessFlags := 9, nameIndex := 51, descriptorIndex := 52, attributes := #[] }] 49 2 #[] #[])
  fields := #[]
  methods := #[k1m0, k1m1, k1m2]
  instanceTypes := #[]
  staticTypes := #[]
  resolved := Array.replicate 59 none
  statics := none }

def pool2 : Array CpInfo := pool [(1, .class_ 2), (0, u "java/lang/constant/Constable"), (0, .class_ 4), (0, u "java/lang/Object")] 6

/-- java/lang/constant/Constable -/
def k2 : Class := { plain "java/lang/constant/Constable" (some 0) with
  accessFlags := 1537
  interfaces := #[]
  cf := some (fileOf pool2 1 #[] #[] 1537 3 #[] #[])
  fields := #[]
  methods := #[]
  instanceTypes := #[]
  staticTypes := #[]
  resolved := Array.replicate 11 none
  statics := none }

def pool3 : Array CpInfo := pool [(1, .class_ 2), (0, u "java/lang/Comparable"), (0, .class_ 4), (0, u "java/lang/Object")] 7

/-- java/lang/Comparable -/
def k3 : Class := { plain "java/lang/Comparable" (some 0) with
  accessFlags := 1537
  interfaces := #[]
  cf := some (fileOf pool3 1 #[] #[] 1537 3 #[] #[])
  fields := #[]
  methods := #[]
  instanceTypes := #[]
  staticTypes := #[]
  resolved := Array.replicate 12 none
  statics := none }

def pool4 : Array CpInfo := pool [(1, .class_ 2), (0, u "java/io/Serializable"), (0, .class_ 4), (0, u "java/lang/Object")] 2

/-- java/io/Serializable -/
def k4 : Class := { plain "java/io/Serializable" (some 0) with
  accessFlags := 1537
  interfaces := #[]
  cf := some (fileOf pool4 1 #[] #[] 1537 3 #[] #[])
  fields := #[]
  methods := #[]
  instanceTypes := #[]
  staticTypes := #[]
  resolved := Array.replicate 7 none
  statics := none }

def pool5 : Array CpInfo := pool [(2, .class_ 4), (1, u "java/lang/Enum"), (0, u "name"), (0, u "Ljava/lang/String;"), (2, u "ordinal"), (0, u "I"), (1, .class_ 14), (1, u "java/lang/Object"), (4, u "hash"), (86, .class_ 108), (1, u "java/lang/Enum$EnumDesc"), (2, .class_ 112), (0, u "java/lang/constant/Constable"), (0, .class_ 114), (0, u "java/lang/Comparable"), (0, .class_ 116), (0, u "java/io/Serializable")] 87

/-- java/lang/Enum -/
def k5 : Class := { plain "java/lang/Enum" (some 0) with
  accessFlags := 1057
  interfaces := #[2, 3, 4]
  cf := some (fileOf pool5 2 #[.nestMembers #[106]] #[] 1057 12 #[111, 113, 115] #[{ accessFlags := 18, nameIndex := 5, descriptorIndex := 6, attributes := #[] }, { accessFlags := 18, nameIndex := 9, descriptorIndex := 10, attributes := #[] }, { accessFlags := 2, nameIndex := 19, descriptorIndex := 10, attributes := #[] }])
  fields := #[{ name := "name", type := (.object "java/lang/String"), accessFlags := 18, slot := 0, constantValue := 0 }, { name := "ordinal", type := .int, accessFlags := 18, slot := 1, constantValue := 0 }, { name := "hash", type := .int, accessFlags := 2, slot := 2, constantValue := 0 }]
  methods := #[]
  instanceTypes := #[(.object "java/lang/String"), .int, .int]
  staticTypes := #[]
  resolved := Array.replicate 204 none
  statics := none }

def pool6 : Array CpInfo := pool [(1, .class_ 2), (0, u "com/example/invariant_to_halt/invarianttohalt/report/Obligation$Kind"), (2, u "INITIATION"), (0, u "Lcom/example/invariant_to_halt/invarianttohalt/report/Obligation$Kind;"), (2, u "CONSECUTION"), (2, u "BOUNDED"), (2, u "DECREASE"), (2, u "NON_INCREASE"), (2, u "PHASE_DECREASE"), (2, u "NO_ERROR"), (0, .fieldref 1 26), (0, .nameAndType 27 6), (0, u "REACHABLE"), (2, u "RECURRENT"), (2, u "$VALUES"), (0, u "[Lcom/example/invariant_to_halt/invarianttohalt/report/Obligation$Kind;"), (6, .class_ 43), (1, u "java/lang/Enum"), (8, u "text"), (0, u "Ljava/lang/String;"), (41, u "holdsWhenSatisfiable"), (0, u "()Z"), (9, .class_ 107), (0, u "com/example/invariant_to_halt/invarianttohalt/report/Obligation")] 2

def k6c0 : Code := { maxStack := 2, maxLocals := 1, code := prog_67_method_4_code, exceptionTable := #[], attributes := #[] }
def k6m0 : Method := { name := "holdsWhenSatisfiable", desc := "()Z", sig := { parameters := [], returnType := some .boolean }, accessFlags := 1, code := some k6c0 }
/-- com/example/invariant_to_halt/invarianttohalt/report/Obligation$Kind -/
def k6 : Class := { plain "com/example/invariant_to_halt/invarianttohalt/report/Obligation$Kind" (some 5) with
  accessFlags := 16433
  interfaces := #[]
  cf := some (fileOf pool6 1 #[.nestHost 106] #[{ accessFlags := 1, nameIndex := 95, descriptorIndex := 96, attributes := #[] }] 16433 41 #[] #[{ accessFlags := 16409, nameIndex := 5, descriptorIndex := 6, attributes := #[] }, { accessFlags := 16409, nameIndex := 9, descriptorIndex := 6, attributes := #[] }, { accessFlags := 16409, nameIndex := 12, descriptorIndex := 6, attributes := #[] }, { accessFlags := 16409, nameIndex := 15, descriptorIndex := 6, attributes := #[] }, { accessFlags := 16409, nameIndex := 18, descriptorIndex := 6, attributes := #[] }, { accessFlags := 16409, nameIndex := 21, descriptorIndex := 6, attributes := #[] }, { accessFlags := 16409, nameIndex := 24, descriptorIndex := 6, attributes := #[] }, { accessFlags := 16409, nameIndex := 27, descriptorIndex := 6, attributes := #[] }, { accessFlags := 16409, nameIndex := 30, descriptorIndex := 6, attributes := #[] }, { accessFlags := 18, nameIndex := 52, descriptorIndex := 53, attributes := #[] }, { accessFlags := 4122, nameIndex := 33, descriptorIndex := 34, attributes := #[] }])
  fields := #[{ name := "INITIATION", type := (.object "com/example/invariant_to_halt/invarianttohalt/report/Obligation$Kind"), accessFlags := 16409, slot := 0, constantValue := 0 }, { name := "CONSECUTION", type := (.object "com/example/invariant_to_halt/invarianttohalt/report/Obligation$Kind"), accessFlags := 16409, slot := 1, constantValue := 0 }, { name := "BOUNDED", type := (.object "com/example/invariant_to_halt/invarianttohalt/report/Obligation$Kind"), accessFlags := 16409, slot := 2, constantValue := 0 }, { name := "DECREASE", type := (.object "com/example/invariant_to_halt/invarianttohalt/report/Obligation$Kind"), accessFlags := 16409, slot := 3, constantValue := 0 }, { name := "NON_INCREASE", type := (.object "com/example/invariant_to_halt/invarianttohalt/report/Obligation$Kind"), accessFlags := 16409, slot := 4, constantValue := 0 }, { name := "PHASE_DECREASE", type := (.object "com/example/invariant_to_halt/invarianttohalt/report/Obligation$Kind"), accessFlags := 16409, slot := 5, constantValue := 0 }, { name := "NO_ERROR", type := (.object "com/example/invariant_to_halt/invarianttohalt/report/Obligation$Kind"), accessFlags := 16409, slot := 6, constantValue := 0 }, { name := "REACHABLE", type := (.object "com/example/invariant_to_halt/invarianttohalt/report/Obligation$Kind"), accessFlags := 16409, slot := 7, constantValue := 0 }, { name := "RECURRENT", type := (.object "com/example/invariant_to_halt/invarianttohalt/report/Obligation$Kind"), accessFlags := 16409, slot := 8, constantValue := 0 }, { name := "text", type := (.object "java/lang/String"), accessFlags := 18, slot := 3, constantValue := 0 }, { name := "$VALUES", type := (.array (.object "com/example/invariant_to_halt/invarianttohalt/report/Obligation$Kind")), accessFlags := 4122, slot := 9, constantValue := 0 }]
  methods := #[k6m0]
  instanceTypes := #[(.object "java/lang/String"), .int, .int, (.object "java/lang/String")]
  staticTypes := #[(.object "com/example/invariant_to_halt/invarianttohalt/report/Obligation$Kind"), (.object "com/example/invariant_to_halt/invarianttohalt/report/Obligation$Kind"), (.object "com/example/invariant_to_halt/invarianttohalt/report/Obligation$Kind"), (.object "com/example/invariant_to_halt/invarianttohalt/report/Obligation$Kind"), (.object "com/example/invariant_to_halt/invarianttohalt/report/Obligation$Kind"), (.object "com/example/invariant_to_halt/invarianttohalt/report/Obligation$Kind"), (.object "com/example/invariant_to_halt/invarianttohalt/report/Obligation$Kind"), (.object "com/example/invariant_to_halt/invarianttohalt/report/Obligation$Kind"), (.object "com/example/invariant_to_halt/invarianttohalt/report/Obligation$Kind"), (.array (.object "com/example/invariant_to_halt/invarianttohalt/report/Obligation$Kind"))]
  resolved := Array.replicate 110 none
  statics := some 0 }

def pool7 : Array CpInfo := pool [(1, u "java/lang/Cloneable"), (0, .class_ 1), (0, u "java/lang/Object"), (0, .class_ 3)] 3

/-- java/lang/Cloneable -/
def k7 : Class := { plain "java/lang/Cloneable" (some 0) with
  accessFlags := 1537
  interfaces := #[]
  cf := some (fileOf pool7 2 #[] #[] 1537 4 #[] #[])
  fields := #[]
  methods := #[]
  instanceTypes := #[]
  staticTypes := #[]
  resolved := Array.replicate 8 none
  statics := none }

/-- the primitive byte -/
def k8 : Class := { plain "byte" none with kind := .primitive 'B', accessFlags := 0x411 }
/-- [B -/
def k9 : Class := { plain "[B" (some 0) with kind := .array 8 .byte, interfaces := #[7, 4], accessFlags := 1041 }

/-- the primitive int -/
def k10 : Class := { plain "int" none with kind := .primitive 'I', accessFlags := 0x411 }
/-- [I -/
def k11 : Class := { plain "[I" (some 0) with kind := .array 10 .int, interfaces := #[7, 4], accessFlags := 1041 }

def heap : Heap := #[{ cls := 6, slots := #[.ref 1, .ref 2, .ref 3, .ref 4, .ref 5, .ref 6, .ref 7, .ref 8, .ref 9, .null], vm := .statics 6 },
  { cls := 6, slots := #[.null, .int 0, .int 0, .null], vm := .none },
  { cls := 6, slots := #[.null, .int 1, .int 0, .null], vm := .none },
  { cls := 6, slots := #[.null, .int 2, .int 0, .null], vm := .none },
  { cls := 6, slots := #[.null, .int 3, .int 0, .null], vm := .none },
  { cls := 6, slots := #[.null, .int 4, .int 0, .null], vm := .none },
  { cls := 6, slots := #[.null, .int 5, .int 0, .null], vm := .none },
  { cls := 6, slots := #[.null, .int 6, .int 0, .null], vm := .none },
  { cls := 6, slots := #[.null, .int 7, .int 0, .null], vm := .none },
  { cls := 6, slots := #[.null, .int 8, .int 0, .null], vm := .none }]
def classes : Array Class := #[k0, k1, k2, k3, k4, k5, k6, k7, k8, k9, k10, k11]
def interned : List (Array UInt16 × Addr) := []
def slotsUsed : Nat := 46
def theMethod : MethodId := ⟨1, 2⟩
def args0 : Array Value := #[.int 7]
def aboutOver (below : List Frame) : State where
  vm := { classes := classes, interned := interned.toArray }
  heap := heap
  slotsUsed := slotsUsed
  threads := #[{ frames := .invoking theMethod args0 :: below }]
def below0 : List Frame := [.native { method := ⟨0, 0⟩, args := #[] }]
def about1 : State := aboutOver below0
def p0 : Program := .bare "" "" ""
def e0 : Env := launch0.env 0 0 0
theorem w_frames : about1.frames = Frame.invoking theMethod args0 :: below0 := rfl
set_option maxRecDepth 65536 in
theorem w_args : argsFit about1.vm theMethod args0 = true := by decide +kernel
set_option maxRecDepth 65536 in
theorem w_heap : heapFits about1 = true := by decide +kernel
set_option maxRecDepth 65536 in
theorem w_runnable : about1.curStatus? = some .runnable := by decide +kernel
set_option maxRecDepth 65536 in
theorem w_alone : about1.alone = true := by decide +kernel
set_option maxRecDepth 65536 in
theorem w_named : about1.methodNamed? x = some theMethod := by decide +kernel
set_option maxRecDepth 65536 in
theorem w_hears : about1.hears theMethod below0 = true := by decide +kernel
set_option maxRecDepth 65536 in
theorem w_ripe : about1.ripe theMethod args0 below0 = true := by decide +kernel
theorem w_running : about1.status = .running := rfl
set_option maxRecDepth 65536 in
theorem w_room : about1.hasRoom e0.platform room_1 = true :=
  launch0.hasRoom_least _ room_1 (by decide +kernel) (by decide +kernel) (by decide +kernel) (by decide +kernel) (by decide +kernel) (by decide +kernel)
theorem allAtoms_all (ts : List Jvm.Cond) (a : Array Jvm.Value) (st : Jvm.State) : (allAtoms ts).before a st = ts.all (fun c => c.before a st) := by
  induction ts with
  | nil => rfl
  | cons c t ih =>
    show (Jvm.Cond.and c (allAtoms t)).before a st = _
    rw [Jvm.Cond.before_and, ih, List.all_cons]
def words1 : List Jvm.Cond := Jvm.Cond.code x code maxLocals ret :: tables_1
/-- a 'code' word, met by the world's own term for the bytes: nothing is compared byte by byte -/
theorem code_word {y : MethodName} {bytes : ByteArray} {mx : Nat} {rt : Option FieldType} {a : Array Value} {s : State} {m : MethodId} {meth : Method} {c : Code} (h1 : s.methodNamed? y = some m) (h2 : s.vm.method? m = some meth) (h3 : meth.code = some c) (h4 : c.code = bytes)
    (h5 : (c.maxLocals == mx && c.exceptionTable.isEmpty && decide (c.maxStack ≤ mostOperands) && decide (meth.sig.returnType = rt) && !meth.locks && decide (parseMethodDescriptor y.desc = some meth.sig)) = true) : (Jvm.Cond.code y bytes mx rt).before a s = true := by
  simp only [Bool.and_eq_true, beq_iff_eq, Bool.not_eq_true', decide_eq_true_eq] at h5
  obtain ⟨⟨⟨⟨⟨g1, g2⟩, g3⟩, g4⟩, g5⟩, g6⟩ := h5
  simp [Cond.before, Cond.holds, Cond.value, h1, h2, h3, h4, g1, g2, g3, g4, g5, g6]
def isCode : Jvm.Cond → Bool
  | .code _ _ _ _ => true
  | _ => false
theorem all_split {L : List Jvm.Cond} {P : Jvm.Cond → Bool} (h1 : L.all (fun c => isCode c || P c) = true) (h2 : ∀ c ∈ L.filter isCode, P c = true) : L.all P = true := by
  refine List.all_eq_true.mpr fun c hc => ?_
  have h := List.all_eq_true.mp h1 c hc
  rcases Bool.eq_false_or_eq_true (isCode c) with hi | hi
  · exact h2 c (List.mem_filter.mpr ⟨hc, hi⟩)
  · simpa [hi] using h
set_option maxRecDepth 65536 in
theorem w_c0 : (Jvm.Cond.code x code maxLocals ret).before args0 about1 = true := code_word (m := ⟨1, 2⟩) (meth := k1m2) (c := k1c2) (by decide +kernel) rfl rfl rfl (by decide +kernel)
set_option maxRecDepth 65536 in
theorem w_c1 : (Jvm.Cond.code ({ cls := "com/example/invariant_to_halt/invarianttohalt/report/KindHoldsWhenSatisfiablePinLaw", name := "pick", desc := "(I)Lcom/example/invariant_to_halt/invarianttohalt/report/Obligation$Kind;" } : Jvm.MethodName) method_2_code (1 : Nat) (Option.some (Jvm.ClassFile.FieldType.object "com/example/invariant_to_halt/invarianttohalt/report/Obligation$Kind"))).before args0 about1 = true := code_word (m := ⟨1, 1⟩) (meth := k1m1) (c := k1c1) (by decide +kernel) rfl rfl rfl (by decide +kernel)
set_option maxRecDepth 65536 in
theorem w_c2 : (Jvm.Cond.code ({ cls := "com/example/invariant_to_halt/invarianttohalt/report/Obligation$Kind", name := "holdsWhenSatisfiable", desc := "()Z" } : Jvm.MethodName) prog_67_method_4_code (1 : Nat) (Option.some Jvm.ClassFile.FieldType.boolean)).before args0 about1 = true := code_word (m := ⟨6, 0⟩) (meth := k6m0) (c := k6c0) (by decide +kernel) rfl rfl rfl (by decide +kernel)
def codes1 : List Jvm.Cond := [Jvm.Cond.code x code maxLocals ret, Jvm.Cond.code ({ cls := "com/example/invariant_to_halt/invarianttohalt/report/KindHoldsWhenSatisfiablePinLaw", name := "pick", desc := "(I)Lcom/example/invariant_to_halt/invarianttohalt/report/Obligation$Kind;" } : Jvm.MethodName) method_2_code (1 : Nat) (Option.some (Jvm.ClassFile.FieldType.object "com/example/invariant_to_halt/invarianttohalt/report/Obligation$Kind")), Jvm.Cond.code ({ cls := "com/example/invariant_to_halt/invarianttohalt/report/Obligation$Kind", name := "holdsWhenSatisfiable", desc := "()Z" } : Jvm.MethodName) prog_67_method_4_code (1 : Nat) (Option.some Jvm.ClassFile.FieldType.boolean)]
set_option maxRecDepth 65536 in
theorem codes_eq : words1.filter isCode = codes1 := rfl
theorem w_codes : ∀ c ∈ words1.filter isCode, c.before args0 about1 = true := by
  rw [codes_eq]
  intro c hc
  simp only [codes1, List.mem_cons, List.not_mem_nil, or_false] at hc
  rcases hc with rfl | rfl | rfl
  · exact w_c0
  · exact w_c1
  · exact w_c2
set_option maxRecDepth 65536 in
theorem w_t1 : (words1.take 24).all (fun c => isCode c || c.before args0 about1) = true := by decide +kernel
set_option maxRecDepth 65536 in
theorem w_t2 : (words1.drop 24).all (fun c => isCode c || c.before args0 about1) = true := by decide +kernel
theorem w_tables : (allAtoms (Jvm.Cond.code x code maxLocals ret :: tables_1)).before args0 about1 = true := by
  rw [allAtoms_all]
  show words1.all (fun c => c.before args0 about1) = true
  refine all_split ?_ w_codes
  rw [← List.take_append_drop 24 words1, List.all_append, w_t1, w_t2]
  rfl
set_option maxRecDepth 65536 in
theorem w_case : (Jvm.Cond.and given_1 narrow_1).before args0 about1 = true := by decide +kernel
theorem w_applies : (headSpec (Jvm.Cond.code x code maxLocals ret :: tables_1) room_1).applies x e0.platform about1 = true :=
  (Spec.applies_iff w_frames).mpr ⟨w_running, w_runnable, w_alone, w_named, w_hears, w_ripe, w_room, w_tables⟩
theorem atStart : AtStart classFile x code maxLocals ret World_1 tables_1 room_1 Calls_1 rest_1 Pre_1 launch0 p0 e0 about1 theMethod args0 below0 :=
  ⟨lists_1, trivial, launch0.admits_env _ _ _, launch0.least_env, fairChoices_fair.cas, fairChoices_fair.clock, w_frames, w_args, w_heap, w_applies, trivial, trivial, w_case⟩
end start1
theorem witness_1 : WitnessClaimed_1 := ⟨start1.p0, start1.e0, start1.about1, start1.theMethod, start1.args0, start1.below0, start1.atStart⟩
end Jvm.Pilot.@@N@@
