import JvmDerived
import JvmDerived.Pilot.@@N@@Statement
import JvmDerived.Pilot.@@N@@Code
set_option linter.unusedVariables false
set_option linter.unusedSimpArgs false
set_option maxRecDepth 65536
namespace Jvm.Pilot.@@N@@
open Jvm Jvm.ClassFile Sem Op Lib Jvm.Free Jvm.Stand Jvm.LawKit Jvm.RoadKit Bundle Jvm.Pilot.@@N@@.Jvm.D
section OwnKit
variable {p : Program} {l : Launch} {e : Env} {R : Room} {s : State} {m : MethodId} {args : Array Value} {below : List Frame} {meth : Method} {c : Code} {T : State} {locs : List Loc} {cells slots : Nat}
theorem own_retI (X : Stand p l e R s m args below meth c T locs cells slots) (hx : p.tables.exec = Jvm.exec) {pc : Nat} {Ls : Array Slot} {z : Int32} {rest : List Value} (hret : meth.sig.returnType = some .int) (hd : decode c.code pc = .ok (.ireturn, 1)) {fs : List Frame}
    (hl : ∀ (f : JFrame) (acts : List Action), f.method = m → f.locked = none → f.entered = [] → (doReturn e (T.setTop f) acts (some (.int z))).1 = T.setFrames fs) : Steps p.tables e below (T.setTop (mkF m pc Ls (.int z :: rest))) (T.setFrames fs) := by
  have hm' : T.vm.method? m = some meth := X.method'
  have hn : narrow .int (.int z) = .int z := rfl
  show Steps p.tables e below (T.setTop { method := m, pc := pc, locals := Ls, stack := _ :: rest, locked := none }) _
  jvm_step X.here [X.here.top, hx, hd, hm', hret, hn]
  first | (intro acts; rw [hl _ acts rfl rfl rfl]) | rw [hl _ _ rfl rfl rfl]
  exact Steps.refl _
/-- where the run stands, with the same writes and figures as at X -/
abbrev own_like (_ : Stand p l e R s m args below meth c T locs cells slots) (T' : State) : Prop := Stand p l e R s m args below meth c T' locs cells slots
end OwnKit
theorem own_Llt {a b : Int64} (h : a < b) : ifCond.holds .lt (lcmpW a b) = true ∧ ifCond.holds .ge (lcmpW a b) = false ∧ ifCond.holds .gt (lcmpW b a) = true ∧ ifCond.holds .le (lcmpW b a) = false := by
  simp only [if0]
  exact ⟨(tlt ((lw_lt a b).mpr h)).1, (tlt ((lw_lt a b).mpr h)).2.1, (tlt ((lw_gt b a).mpr h)).2.2.1, (tlt ((lw_gt b a).mpr h)).2.2.2⟩
theorem own_Lnl {a b : Int64} (h : ¬ a < b) : ifCond.holds .lt (lcmpW a b) = false ∧ ifCond.holds .ge (lcmpW a b) = true ∧ ifCond.holds .gt (lcmpW b a) = false ∧ ifCond.holds .le (lcmpW b a) = true := by
  simp only [if0]
  have h1 : ¬ lcmpW a b < 0 := fun q => h ((lw_lt a b).mp q)
  have h2 : ¬ 0 < lcmpW b a := fun q => h ((lw_gt b a).mp q)
  exact ⟨(flt h1).1, (flt h1).2.1, (flt h2).2.2.1, (flt h2).2.2.2⟩
theorem own_Leq {a b : Int64} (h : a = b) : ifCond.holds .eq (lcmpW a b) = true ∧ ifCond.holds .ne (lcmpW a b) = false := by
  simp only [if0]
  exact teq ((lw_eq a b).mpr h)
theorem own_Lne {a b : Int64} (h : ¬ a = b) : ifCond.holds .eq (lcmpW a b) = false ∧ ifCond.holds .ne (lcmpW a b) = true := by
  simp only [if0]
  exact feq fun q => h ((lw_eq a b).mp q)
theorem own_StaK {Z : State} {h h' : Heap} {C n d : String} {v : Value} {ws : List Addr} (F : Sta Z h C n d v) (K : Keep h h' ws) (q : ∀ x ∈ ws, ∃ c : Cell, h[x]? = some c ∧ c.vm.isStatics = false) : Sta Z h' C n d v := by
  obtain ⟨cf, i, k, f, st, cell, h1, h2, h3, h4, h5, h6, h7⟩ := F
  refine ⟨cf, i, k, f, st, cell, h1, h2, h3, h4, K.2.1 st cell h5 (fun hm => ?_), h6, h7⟩
  obtain ⟨c, e1, e2⟩ := q _ hm
  rw [h5] at e1
  cases e1
  rw [h6] at e2
  cases e2
theorem own_ExaS {Z : State} {h : Heap} {a : Addr} {C : String} (E : Exa Z h a C) : ∃ c : Cell, h[a]? = some c ∧ c.vm.isStatics = false := by
  obtain ⟨c, k, e1, -, -, e2, -⟩ := E
  exact ⟨c, e1, e2⟩
/-- a boolean as the JVM's int -/
def own_b (b : Bool) : Int32 := if b then 1 else 0
theorem own_b_t : own_b true = 1 := rfl
theorem own_b_f : own_b false = 0 := rfl
theorem own_b0 {b : Bool} : own_b b = 0 ↔ b = false := by cases b <;> decide
theorem own_b_inj {b c : Bool} : own_b b = own_b c ↔ b = c := by cases b <;> cases c <;> decide
theorem own_leafT {b : Bool} (h : b = true) : (some (.int (nar .boolean (1 : Int32))) : Option Value) = some (.int (own_b b)) := by subst h; rfl
theorem own_leafF {b : Bool} (h : b = false) : (some (.int (nar .boolean (0 : Int32))) : Option Value) = some (.int (own_b b)) := by subst h; rfl
theorem own_bt {b : Bool} (h : b = true) : (1 : Int32) = own_b b := by subst h; rfl
theorem own_bf {b : Bool} (h : b = false) : (0 : Int32) = own_b b := by subst h; rfl
theorem own_b_nar (b : Bool) : nar .boolean (own_b b) = own_b b := by cases b <;> rfl
def own_ct (t lo hi : Int32) : Bool := decide (¬ t < lo ∧ ¬ hi < t)
def own_ir (lo hi t : Int32) : Bool := decide (¬ ((t.toInt64) - (lo.toInt64)) < (0 : Int64) ∧ ¬ ((hi.toInt64) - (lo.toInt64)) < ((t.toInt64) - (lo.toInt64)))
theorem own_plain (t lo hi : Int32) (h : 0 ≤ lo.toInt ∧ lo.toInt ≤ hi.toInt) : own_b (own_ct t lo hi) = own_b (own_ir lo hi t) := by
  rw [own_b_inj]
  unfold own_ct own_ir
  rw [decide_eq_decide]
  rw [Int32.lt_iff_toInt_lt, Int32.lt_iff_toInt_lt, Int64.lt_iff_toInt_lt, Int64.lt_iff_toInt_lt]
  have a := c_lsub t.toInt64 lo.toInt64
  have b := c_lsub hi.toInt64 lo.toInt64
  have ra := rng64 (t.toInt64 - lo.toInt64)
  have rb := rng64 (hi.toInt64 - lo.toInt64)
  have c1 := c_i2l t
  have c2 := c_i2l lo
  have c3 := c_i2l hi
  have r1 := rng32 t
  have r2 := rng32 lo
  have r3 := rng32 hi
  have z : (0 : Int64).toInt = 0 := rfl
  omega
theorem own_d1_0 : decode prog_37_method_5_code 0 = .ok (.iload_n 1, 1) := by decide +kernel
theorem own_d1_1 : decode prog_37_method_5_code 1 = .ok (.aload_n 0, 1) := by decide +kernel
theorem own_d1_2 : decode prog_37_method_5_code 2 = .ok (.getfield 32, 3) := by decide +kernel
theorem own_d1_5 : decode prog_37_method_5_code 5 = .ok (.if_icmp .lt 15, 3) := by decide +kernel
theorem own_d1_8 : decode prog_37_method_5_code 8 = .ok (.iload_n 1, 1) := by decide +kernel
theorem own_d1_9 : decode prog_37_method_5_code 9 = .ok (.aload_n 0, 1) := by decide +kernel
theorem own_d1_10 : decode prog_37_method_5_code 10 = .ok (.getfield 36, 3) := by decide +kernel
theorem own_d1_13 : decode prog_37_method_5_code 13 = .ok (.if_icmp .gt 7, 3) := by decide +kernel
theorem own_d1_16 : decode prog_37_method_5_code 16 = .ok (.iconst 1, 1) := by decide +kernel
theorem own_d1_17 : decode prog_37_method_5_code 17 = .ok (.goto 4, 3) := by decide +kernel
theorem own_d1_20 : decode prog_37_method_5_code 20 = .ok (.iconst 0, 1) := by decide +kernel
theorem own_d1_21 : decode prog_37_method_5_code 21 = .ok (.ireturn, 1) := by decide +kernel
theorem own_ef1 (m : MethodId) (x0 : Addr) (x1 : Int32) : entryFrame m #[(.ref x0), (.int x1)] 2 = mkF m 0 #[.val (.ref x0), .val (.int x1)] [] := by first | (simp [entryFrame, mkF, argsToLocals, Value.category]; done) | rfl
def own_Q1 (Z : State) (a : Addr) (ty : Int32) (lo : Int32) (hi : Int32) (h0 : Heap) (n0 : Nat) (v : Option Value) (h : Heap) (L : List Loc) : Prop := v = some (.int (own_b (own_ct ty lo hi))) ∧ L = [] ∧ h = h0
theorem own_pn0 : plainName "com/example/mullion/mullion/policy/WindowFamily" = true := by first | (simp [plainName, overriddenIn]; done) | decide +kernel
set_option maxHeartbeats 40000000 in
theorem own_rm1 (l : Launch) (Z : State) (a0 : Array Value) (hw : ∀ d ∈ tables_1, d.before a0 Z = true) (ws : List Jvm.Cond) (a : Addr) (ty : Int32) (lo : Int32) (hi : Int32) (h0 : Heap) (n0 : Nat) (Z0 : n0 ≤ h0.size) (F_first : Fld Z h0 a "com/example/mullion/mullion/policy/WindowFamily" "first" "I" (.int lo)) (F_last : Fld Z h0 a "com/example/mullion/mullion/policy/WindowFamily" "last" "I" (.int hi)) :
    MetFree l (⟨"com/example/mullion/mullion/policy/WindowFamily", "contains", "(I)Z"⟩ : MethodName) (head1 (Jvm.Cond.code (⟨"com/example/mullion/mullion/policy/WindowFamily", "contains", "(I)Z"⟩ : MethodName) prog_37_method_5_code 2 (some .boolean) :: ws) ({ frames := 0, cells := 0, slots := 0, locals := 0 } : Room)) (fun argv U => argv = #[(.ref a), (.int ty)] ∧ Z.Warmed39 U.vm ∧ U.heap = h0) (fun _ _ _ _ _ => True) (fun _ U o U' => ∃ v L, o = .returned v ∧ own_Q1 Z a ty lo hi h0 n0 v U'.heap L ∧ FrameEnd U o U' L ({ frames := 0, cells := 0, slots := 0, locals := 0 } : Room).cells ({ frames := 0, cells := 0, slots := 0, locals := 0 } : Room).slots) := by
  refine MetFree.of_bodySF (plainFor_of_name own_pn0) hisR ?_
  intro p e s m args below meth c s₁ Bd hml0 hP hK
  obtain ⟨rfl, hZ, hh⟩ := hP
  have hx := Bd.exec
  have hby := Bd.bytes
  have hml : c.maxLocals = 2 := hml0
  have hown : s.vm.findClass "com/example/mullion/mullion/policy/WindowFamily" = some m.cls := findClass_of_methodNamed Bd.named
  have hnm := (name_of_methodNamed Bd.named Bd.method).1
  have X0 : Stand p l e ({ frames := 0, cells := 0, slots := 0, locals := 0 } : Room) s m #[(.ref a), (.int ty)] below meth c s₁ [] 0 0 := Stand.of_body Bd
  have e0 : s₁.heap = h0 := by rw [← hh, Bd.state]; rfl
  have N0 := Fr.nil n0
  have pre0 : ∀ t, Steps p.tables e below (s₁.setTop (mkF m 0 #[.val (.ref a), .val (.int ty)] [])) t → Steps p.tables e below (s₁.setTop (entryFrame m #[(.ref a), (.int ty)] 2)) t := fun t k => castTop (own_ef1 m a ty) k
  have S1 : ∀ t, Steps p.tables e below (s₁.setTop (mkF m 2 #[.val (.ref a), .val (.int ty)] [(.ref a), (.int ty)])) t → Steps p.tables e below (s₁.setTop (entryFrame m #[(.ref a), (.int ty)] 2)) t := fun t kt => by
    refine pre0 t ?_
    show Steps p.tables e below (s₁.setTop (mkF m 0 #[.val (.ref a), .val (.int ty)] [])) t
    refine XS.iloadN X0.here hx rfl (hb hby own_d1_0) rfl ?_
    show Steps p.tables e below (s₁.setTop (mkF m 1 #[.val (.ref a), .val (.int ty)] [(.int ty)])) t
    refine XS.aloadN X0.here hx rfl (hb hby own_d1_1) rfl rfl ?_
    exact kt
  obtain ⟨T2, X2, e2, st2⟩ := getF X0 hx hZ hown (host := "") (Or.inl (hw _ (List.mem_of_getElem? (i := 9) rfl))) Via.refl e0 F_first (g := (mkF m 2 #[.val (.ref a), .val (.int ty)] [(.ref a), (.int ty)])) rfl rfl (hb hby own_d1_2)
  have S3 : ∀ t, Steps p.tables e below (T2.setTop (mkF m 5 #[.val (.ref a), .val (.int ty)] [(.int lo), (.int ty)])) t → Steps p.tables e below (s₁.setTop (entryFrame m #[(.ref a), (.int ty)] 2)) t := fun t kt => S1 t (st2 _ kt)
  by_cases hc5 : ty < lo
  · skip
    have S4 : ∀ t, Steps p.tables e below (T2.setTop (mkF m 21 #[.val (.ref a), .val (.int ty)] [(.int (0 : Int32))])) t → Steps p.tables e below (s₁.setTop (entryFrame m #[(.ref a), (.int ty)] 2)) t := fun t kt => by
      refine S3 t ?_
      show Steps p.tables e below (T2.setTop (mkF m 5 #[.val (.ref a), .val (.int ty)] [(.int lo), (.int ty)])) t
      refine XS.icmpYes X2.here hx rfl (pc0 := 5) (pc' := 20) rfl (hb hby own_d1_5) rfl (tlt hc5).1 (by decide) (by decide) ?_
      show Steps p.tables e below (T2.setTop (mkF m 20 #[.val (.ref a), .val (.int ty)] [])) t
      refine XS.iconst X2.here hx rfl (hb hby own_d1_20) ?_
      exact kt
    obtain ⟨fs, hr, hrun, hended, hW, hsame⟩ := X2.leave (v := some (.int (nar .boolean (0 : Int32)))) (fun h => by rw [Bd.returns] at h; cases h)
    refine ⟨_, _, S4 _ ?_, hrun, hended, _, _, rfl, ?_, ⟨_, rfl⟩, hW, hsame.mono (by decide) (by decide)⟩
    · show Steps p.tables e below (T2.setTop (mkF m 21 #[.val (.ref a), .val (.int ty)] [(.int (0 : Int32))])) _
      exact retN X2 hx (t := .boolean) Bd.returns (by simp) (hb hby own_d1_21) hr
    · show own_Q1 Z a ty lo hi h0 n0 _ T2.heap _
      rw [e2]
      exact ⟨own_leafF (by simp only [own_ct, decide_true, decide_false, not_true_eq_false, not_false_eq_true, and_true, true_and, and_false, false_and, and_self, or_true, true_or, or_false, false_or, or_self, if_true, if_false, Bool.not_true, Bool.not_false, Bool.and_true, Bool.true_and, Bool.and_false, Bool.false_and, *]), rfl, rfl⟩
  · skip
    have S5 : ∀ t, Steps p.tables e below (T2.setTop (mkF m 10 #[.val (.ref a), .val (.int ty)] [(.ref a), (.int ty)])) t → Steps p.tables e below (s₁.setTop (entryFrame m #[(.ref a), (.int ty)] 2)) t := fun t kt => by
      refine S3 t ?_
      show Steps p.tables e below (T2.setTop (mkF m 5 #[.val (.ref a), .val (.int ty)] [(.int lo), (.int ty)])) t
      refine XS.icmpNo X2.here hx rfl (hb hby own_d1_5) rfl (flt hc5).1 ?_
      show Steps p.tables e below (T2.setTop (mkF m 8 #[.val (.ref a), .val (.int ty)] [])) t
      refine XS.iloadN X2.here hx rfl (hb hby own_d1_8) rfl ?_
      show Steps p.tables e below (T2.setTop (mkF m 9 #[.val (.ref a), .val (.int ty)] [(.int ty)])) t
      refine XS.aloadN X2.here hx rfl (hb hby own_d1_9) rfl rfl ?_
      exact kt
    obtain ⟨T6, X6, e6, st6⟩ := getF X2 hx hZ hown (host := "") (Or.inl (hw _ (List.mem_of_getElem? (i := 11) rfl))) Via.refl e2 F_last (g := (mkF m 10 #[.val (.ref a), .val (.int ty)] [(.ref a), (.int ty)])) rfl rfl (hb hby own_d1_10)
    have S7 : ∀ t, Steps p.tables e below (T6.setTop (mkF m 13 #[.val (.ref a), .val (.int ty)] [(.int hi), (.int ty)])) t → Steps p.tables e below (s₁.setTop (entryFrame m #[(.ref a), (.int ty)] 2)) t := fun t kt => S5 t (st6 _ kt)
    by_cases hc13 : hi < ty
    · skip
      have S8 : ∀ t, Steps p.tables e below (T6.setTop (mkF m 21 #[.val (.ref a), .val (.int ty)] [(.int (0 : Int32))])) t → Steps p.tables e below (s₁.setTop (entryFrame m #[(.ref a), (.int ty)] 2)) t := fun t kt => by
        refine S7 t ?_
        show Steps p.tables e below (T6.setTop (mkF m 13 #[.val (.ref a), .val (.int ty)] [(.int hi), (.int ty)])) t
        refine XS.icmpYes X6.here hx rfl (pc0 := 13) (pc' := 20) rfl (hb hby own_d1_13) rfl (tlt hc13).2.2.1 (by decide) (by decide) ?_
        show Steps p.tables e below (T6.setTop (mkF m 20 #[.val (.ref a), .val (.int ty)] [])) t
        refine XS.iconst X6.here hx rfl (hb hby own_d1_20) ?_
        exact kt
      obtain ⟨fs, hr, hrun, hended, hW, hsame⟩ := X6.leave (v := some (.int (nar .boolean (0 : Int32)))) (fun h => by rw [Bd.returns] at h; cases h)
      refine ⟨_, _, S8 _ ?_, hrun, hended, _, _, rfl, ?_, ⟨_, rfl⟩, hW, hsame.mono (by decide) (by decide)⟩
      · show Steps p.tables e below (T6.setTop (mkF m 21 #[.val (.ref a), .val (.int ty)] [(.int (0 : Int32))])) _
        exact retN X6 hx (t := .boolean) Bd.returns (by simp) (hb hby own_d1_21) hr
      · show own_Q1 Z a ty lo hi h0 n0 _ T6.heap _
        rw [e6]
        exact ⟨own_leafF (by simp only [own_ct, decide_true, decide_false, not_true_eq_false, not_false_eq_true, and_true, true_and, and_false, false_and, and_self, or_true, true_or, or_false, false_or, or_self, if_true, if_false, Bool.not_true, Bool.not_false, Bool.and_true, Bool.true_and, Bool.and_false, Bool.false_and, *]), rfl, rfl⟩
    · skip
      have S9 : ∀ t, Steps p.tables e below (T6.setTop (mkF m 21 #[.val (.ref a), .val (.int ty)] [(.int (1 : Int32))])) t → Steps p.tables e below (s₁.setTop (entryFrame m #[(.ref a), (.int ty)] 2)) t := fun t kt => by
        refine S7 t ?_
        show Steps p.tables e below (T6.setTop (mkF m 13 #[.val (.ref a), .val (.int ty)] [(.int hi), (.int ty)])) t
        refine XS.icmpNo X6.here hx rfl (hb hby own_d1_13) rfl (flt hc13).2.2.1 ?_
        show Steps p.tables e below (T6.setTop (mkF m 16 #[.val (.ref a), .val (.int ty)] [])) t
        refine XS.iconst X6.here hx rfl (hb hby own_d1_16) ?_
        show Steps p.tables e below (T6.setTop (mkF m 17 #[.val (.ref a), .val (.int ty)] [(.int (1 : Int32))])) t
        refine XS.goto X6.here hx rfl (pc0 := 17) (pc' := 21) rfl (hb hby own_d1_17) (by decide) (by decide) ?_
        exact kt
      obtain ⟨fs, hr, hrun, hended, hW, hsame⟩ := X6.leave (v := some (.int (nar .boolean (1 : Int32)))) (fun h => by rw [Bd.returns] at h; cases h)
      refine ⟨_, _, S9 _ ?_, hrun, hended, _, _, rfl, ?_, ⟨_, rfl⟩, hW, hsame.mono (by decide) (by decide)⟩
      · show Steps p.tables e below (T6.setTop (mkF m 21 #[.val (.ref a), .val (.int ty)] [(.int (1 : Int32))])) _
        exact retN X6 hx (t := .boolean) Bd.returns (by simp) (hb hby own_d1_21) hr
      · show own_Q1 Z a ty lo hi h0 n0 _ T6.heap _
        rw [e6]
        exact ⟨own_leafT (by simp only [own_ct, decide_true, decide_false, not_true_eq_false, not_false_eq_true, and_true, true_and, and_false, false_and, and_self, or_true, true_or, or_false, false_or, or_self, if_true, if_false, Bool.not_true, Bool.not_false, Bool.and_true, Bool.true_and, Bool.and_false, Bool.false_and, *]), rfl, rfl⟩
theorem own_d2_0 : decode method_3_code 0 = .ok (.iload_n 2, 1) := by decide +kernel
theorem own_d2_1 : decode method_3_code 1 = .ok (.i2l, 1) := by decide +kernel
theorem own_d2_2 : decode method_3_code 2 = .ok (.iload_n 0, 1) := by decide +kernel
theorem own_d2_3 : decode method_3_code 3 = .ok (.i2l, 1) := by decide +kernel
theorem own_d2_4 : decode method_3_code 4 = .ok (.lsub, 1) := by decide +kernel
theorem own_d2_5 : decode method_3_code 5 = .ok (.lstore_n 3, 1) := by decide +kernel
theorem own_d2_6 : decode method_3_code 6 = .ok (.iload_n 1, 1) := by decide +kernel
theorem own_d2_7 : decode method_3_code 7 = .ok (.i2l, 1) := by decide +kernel
theorem own_d2_8 : decode method_3_code 8 = .ok (.iload_n 0, 1) := by decide +kernel
theorem own_d2_9 : decode method_3_code 9 = .ok (.i2l, 1) := by decide +kernel
theorem own_d2_10 : decode method_3_code 10 = .ok (.lsub, 1) := by decide +kernel
theorem own_d2_11 : decode method_3_code 11 = .ok (.lstore 5, 2) := by decide +kernel
theorem own_d2_13 : decode method_3_code 13 = .ok (.lload_n 3, 1) := by decide +kernel
theorem own_d2_14 : decode method_3_code 14 = .ok (.lconst 0, 1) := by decide +kernel
theorem own_d2_15 : decode method_3_code 15 = .ok (.lcmp, 1) := by decide +kernel
theorem own_d2_16 : decode method_3_code 16 = .ok (.ifCond .lt 14, 3) := by decide +kernel
theorem own_d2_19 : decode method_3_code 19 = .ok (.lload_n 3, 1) := by decide +kernel
theorem own_d2_20 : decode method_3_code 20 = .ok (.lload 5, 2) := by decide +kernel
theorem own_d2_22 : decode method_3_code 22 = .ok (.lcmp, 1) := by decide +kernel
theorem own_d2_23 : decode method_3_code 23 = .ok (.ifCond .gt 7, 3) := by decide +kernel
theorem own_d2_26 : decode method_3_code 26 = .ok (.iconst 1, 1) := by decide +kernel
theorem own_d2_27 : decode method_3_code 27 = .ok (.goto 4, 3) := by decide +kernel
theorem own_d2_30 : decode method_3_code 30 = .ok (.iconst 0, 1) := by decide +kernel
theorem own_d2_31 : decode method_3_code 31 = .ok (.ireturn, 1) := by decide +kernel
theorem own_ef2 (m : MethodId) (x0 : Int32) (x1 : Int32) (x2 : Int32) : entryFrame m #[(.int x0), (.int x1), (.int x2)] 7 = mkF m 0 #[.val (.int x0), .val (.int x1), .val (.int x2), .unset, .unset, .unset, .unset] [] := by first | (simp [entryFrame, mkF, argsToLocals, Value.category]; done) | rfl
def own_Q2 (Z : State) (lo : Int32) (hi : Int32) (ty : Int32) (h0 : Heap) (n0 : Nat) (v : Option Value) (h : Heap) (L : List Loc) : Prop := v = some (.int (own_b (own_ir lo hi ty))) ∧ L = [] ∧ h = h0
theorem own_pn1 : plainName "com/example/mullion/mullion/policy/WindowFamilyContainsPinLaw" = true := by first | (simp [plainName, overriddenIn]; done) | decide +kernel
set_option maxHeartbeats 40000000 in
theorem own_rm2 (l : Launch) (Z : State) (a0 : Array Value) (hw : ∀ d ∈ tables_1, d.before a0 Z = true) (ws : List Jvm.Cond) (lo : Int32) (hi : Int32) (ty : Int32) (h0 : Heap) (n0 : Nat) (Z0 : n0 ≤ h0.size) :
    MetFree l (⟨"com/example/mullion/mullion/policy/WindowFamilyContainsPinLaw", "inRange", "(III)Z"⟩ : MethodName) (head1 (Jvm.Cond.code (⟨"com/example/mullion/mullion/policy/WindowFamilyContainsPinLaw", "inRange", "(III)Z"⟩ : MethodName) method_3_code 7 (some .boolean) :: ws) ({ frames := 0, cells := 0, slots := 0, locals := 0 } : Room)) (fun argv U => argv = #[(.int lo), (.int hi), (.int ty)] ∧ Z.Warmed39 U.vm ∧ U.heap = h0) (fun _ _ _ _ _ => True) (fun _ U o U' => ∃ v L, o = .returned v ∧ own_Q2 Z lo hi ty h0 n0 v U'.heap L ∧ FrameEnd U o U' L ({ frames := 0, cells := 0, slots := 0, locals := 0 } : Room).cells ({ frames := 0, cells := 0, slots := 0, locals := 0 } : Room).slots) := by
  refine MetFree.of_bodySF (plainFor_of_name own_pn1) hisR ?_
  intro p e s m args below meth c s₁ Bd hml0 hP hK
  obtain ⟨rfl, hZ, hh⟩ := hP
  have hx := Bd.exec
  have hby := Bd.bytes
  have hml : c.maxLocals = 7 := hml0
  have hown : s.vm.findClass "com/example/mullion/mullion/policy/WindowFamilyContainsPinLaw" = some m.cls := findClass_of_methodNamed Bd.named
  have hnm := (name_of_methodNamed Bd.named Bd.method).1
  have X0 : Stand p l e ({ frames := 0, cells := 0, slots := 0, locals := 0 } : Room) s m #[(.int lo), (.int hi), (.int ty)] below meth c s₁ [] 0 0 := Stand.of_body Bd
  have e0 : s₁.heap = h0 := by rw [← hh, Bd.state]; rfl
  have N0 := Fr.nil n0
  have pre0 : ∀ t, Steps p.tables e below (s₁.setTop (mkF m 0 #[.val (.int lo), .val (.int hi), .val (.int ty), .unset, .unset, .unset, .unset] [])) t → Steps p.tables e below (s₁.setTop (entryFrame m #[(.int lo), (.int hi), (.int ty)] 7)) t := fun t k => castTop (own_ef2 m lo hi ty) k
  have S1 : ∀ t, Steps p.tables e below (s₁.setTop (mkF m 16 #[.val (.int lo), .val (.int hi), .val (.int ty), .val (.long ((ty.toInt64) - (lo.toInt64))), .second, .val (.long ((hi.toInt64) - (lo.toInt64))), .second] [(.int (lcmpW ((ty.toInt64) - (lo.toInt64)) (0 : Int64)))])) t → Steps p.tables e below (s₁.setTop (entryFrame m #[(.int lo), (.int hi), (.int ty)] 7)) t := fun t kt => by
    refine pre0 t ?_
    show Steps p.tables e below (s₁.setTop (mkF m 0 #[.val (.int lo), .val (.int hi), .val (.int ty), .unset, .unset, .unset, .unset] [])) t
    refine XS.iloadN X0.here hx rfl (hb hby own_d2_0) rfl ?_
    show Steps p.tables e below (s₁.setTop (mkF m 1 #[.val (.int lo), .val (.int hi), .val (.int ty), .unset, .unset, .unset, .unset] [(.int ty)])) t
    refine XS.i2l X0.here hx rfl (hb hby own_d2_1) rfl ?_
    show Steps p.tables e below (s₁.setTop (mkF m 2 #[.val (.int lo), .val (.int hi), .val (.int ty), .unset, .unset, .unset, .unset] [(.long (ty.toInt64))])) t
    refine XS.iloadN X0.here hx rfl (hb hby own_d2_2) rfl ?_
    show Steps p.tables e below (s₁.setTop (mkF m 3 #[.val (.int lo), .val (.int hi), .val (.int ty), .unset, .unset, .unset, .unset] [(.int lo), (.long (ty.toInt64))])) t
    refine XS.i2l X0.here hx rfl (hb hby own_d2_3) rfl ?_
    show Steps p.tables e below (s₁.setTop (mkF m 4 #[.val (.int lo), .val (.int hi), .val (.int ty), .unset, .unset, .unset, .unset] [(.long (lo.toInt64)), (.long (ty.toInt64))])) t
    refine XS.lsub X0.here hx rfl (hb hby own_d2_4) rfl ?_
    show Steps p.tables e below (s₁.setTop (mkF m 5 #[.val (.int lo), .val (.int hi), .val (.int ty), .unset, .unset, .unset, .unset] [(.long ((ty.toInt64) - (lo.toInt64)))])) t
    refine XS.lstoreN X0.here hx rfl (hb hby own_d2_5) rfl (l' := #[.val (.int lo), .val (.int hi), .val (.int ty), .val (.long ((ty.toInt64) - (lo.toInt64))), .second, .unset, .unset]) rfl ?_
    show Steps p.tables e below (s₁.setTop (mkF m 6 #[.val (.int lo), .val (.int hi), .val (.int ty), .val (.long ((ty.toInt64) - (lo.toInt64))), .second, .unset, .unset] [])) t
    refine XS.iloadN X0.here hx rfl (hb hby own_d2_6) rfl ?_
    show Steps p.tables e below (s₁.setTop (mkF m 7 #[.val (.int lo), .val (.int hi), .val (.int ty), .val (.long ((ty.toInt64) - (lo.toInt64))), .second, .unset, .unset] [(.int hi)])) t
    refine XS.i2l X0.here hx rfl (hb hby own_d2_7) rfl ?_
    show Steps p.tables e below (s₁.setTop (mkF m 8 #[.val (.int lo), .val (.int hi), .val (.int ty), .val (.long ((ty.toInt64) - (lo.toInt64))), .second, .unset, .unset] [(.long (hi.toInt64))])) t
    refine XS.iloadN X0.here hx rfl (hb hby own_d2_8) rfl ?_
    show Steps p.tables e below (s₁.setTop (mkF m 9 #[.val (.int lo), .val (.int hi), .val (.int ty), .val (.long ((ty.toInt64) - (lo.toInt64))), .second, .unset, .unset] [(.int lo), (.long (hi.toInt64))])) t
    refine XS.i2l X0.here hx rfl (hb hby own_d2_9) rfl ?_
    show Steps p.tables e below (s₁.setTop (mkF m 10 #[.val (.int lo), .val (.int hi), .val (.int ty), .val (.long ((ty.toInt64) - (lo.toInt64))), .second, .unset, .unset] [(.long (lo.toInt64)), (.long (hi.toInt64))])) t
    refine XS.lsub X0.here hx rfl (hb hby own_d2_10) rfl ?_
    show Steps p.tables e below (s₁.setTop (mkF m 11 #[.val (.int lo), .val (.int hi), .val (.int ty), .val (.long ((ty.toInt64) - (lo.toInt64))), .second, .unset, .unset] [(.long ((hi.toInt64) - (lo.toInt64)))])) t
    refine XS.lstore X0.here hx rfl (hb hby own_d2_11) rfl (l' := #[.val (.int lo), .val (.int hi), .val (.int ty), .val (.long ((ty.toInt64) - (lo.toInt64))), .second, .val (.long ((hi.toInt64) - (lo.toInt64))), .second]) rfl ?_
    show Steps p.tables e below (s₁.setTop (mkF m 13 #[.val (.int lo), .val (.int hi), .val (.int ty), .val (.long ((ty.toInt64) - (lo.toInt64))), .second, .val (.long ((hi.toInt64) - (lo.toInt64))), .second] [])) t
    refine XS.lloadN X0.here hx rfl (hb hby own_d2_13) rfl ?_
    show Steps p.tables e below (s₁.setTop (mkF m 14 #[.val (.int lo), .val (.int hi), .val (.int ty), .val (.long ((ty.toInt64) - (lo.toInt64))), .second, .val (.long ((hi.toInt64) - (lo.toInt64))), .second] [(.long ((ty.toInt64) - (lo.toInt64)))])) t
    refine XS.lconst X0.here hx rfl (hb hby own_d2_14) ?_
    show Steps p.tables e below (s₁.setTop (mkF m 15 #[.val (.int lo), .val (.int hi), .val (.int ty), .val (.long ((ty.toInt64) - (lo.toInt64))), .second, .val (.long ((hi.toInt64) - (lo.toInt64))), .second] [(.long (0 : Int64)), (.long ((ty.toInt64) - (lo.toInt64)))])) t
    refine XS.lcmp X0.here hx rfl (hb hby own_d2_15) rfl ?_
    exact kt
  by_cases hc16 : ((ty.toInt64) - (lo.toInt64)) < (0 : Int64)
  · skip
    have S2 : ∀ t, Steps p.tables e below (s₁.setTop (mkF m 31 #[.val (.int lo), .val (.int hi), .val (.int ty), .val (.long ((ty.toInt64) - (lo.toInt64))), .second, .val (.long ((hi.toInt64) - (lo.toInt64))), .second] [(.int (0 : Int32))])) t → Steps p.tables e below (s₁.setTop (entryFrame m #[(.int lo), (.int hi), (.int ty)] 7)) t := fun t kt => by
      refine S1 t ?_
      show Steps p.tables e below (s₁.setTop (mkF m 16 #[.val (.int lo), .val (.int hi), .val (.int ty), .val (.long ((ty.toInt64) - (lo.toInt64))), .second, .val (.long ((hi.toInt64) - (lo.toInt64))), .second] [(.int (lcmpW ((ty.toInt64) - (lo.toInt64)) (0 : Int64)))])) t
      refine XS.ifYes X0.here hx rfl (pc0 := 16) (pc' := 30) rfl (hb hby own_d2_16) rfl (own_Llt hc16).1 (by decide) (by decide) ?_
      show Steps p.tables e below (s₁.setTop (mkF m 30 #[.val (.int lo), .val (.int hi), .val (.int ty), .val (.long ((ty.toInt64) - (lo.toInt64))), .second, .val (.long ((hi.toInt64) - (lo.toInt64))), .second] [])) t
      refine XS.iconst X0.here hx rfl (hb hby own_d2_30) ?_
      exact kt
    obtain ⟨fs, hr, hrun, hended, hW, hsame⟩ := X0.leave (v := some (.int (nar .boolean (0 : Int32)))) (fun h => by rw [Bd.returns] at h; cases h)
    refine ⟨_, _, S2 _ ?_, hrun, hended, _, _, rfl, ?_, ⟨_, rfl⟩, hW, hsame.mono (by decide) (by decide)⟩
    · show Steps p.tables e below (s₁.setTop (mkF m 31 #[.val (.int lo), .val (.int hi), .val (.int ty), .val (.long ((ty.toInt64) - (lo.toInt64))), .second, .val (.long ((hi.toInt64) - (lo.toInt64))), .second] [(.int (0 : Int32))])) _
      exact retN X0 hx (t := .boolean) Bd.returns (by simp) (hb hby own_d2_31) hr
    · show own_Q2 Z lo hi ty h0 n0 _ s₁.heap _
      rw [e0]
      exact ⟨own_leafF (by simp only [own_ir, decide_true, decide_false, not_true_eq_false, not_false_eq_true, and_true, true_and, and_false, false_and, and_self, or_true, true_or, or_false, false_or, or_self, if_true, if_false, Bool.not_true, Bool.not_false, Bool.and_true, Bool.true_and, Bool.and_false, Bool.false_and, *]), rfl, rfl⟩
  · skip
    have S3 : ∀ t, Steps p.tables e below (s₁.setTop (mkF m 23 #[.val (.int lo), .val (.int hi), .val (.int ty), .val (.long ((ty.toInt64) - (lo.toInt64))), .second, .val (.long ((hi.toInt64) - (lo.toInt64))), .second] [(.int (lcmpW ((ty.toInt64) - (lo.toInt64)) ((hi.toInt64) - (lo.toInt64))))])) t → Steps p.tables e below (s₁.setTop (entryFrame m #[(.int lo), (.int hi), (.int ty)] 7)) t := fun t kt => by
      refine S1 t ?_
      show Steps p.tables e below (s₁.setTop (mkF m 16 #[.val (.int lo), .val (.int hi), .val (.int ty), .val (.long ((ty.toInt64) - (lo.toInt64))), .second, .val (.long ((hi.toInt64) - (lo.toInt64))), .second] [(.int (lcmpW ((ty.toInt64) - (lo.toInt64)) (0 : Int64)))])) t
      refine XS.ifNo X0.here hx rfl (hb hby own_d2_16) rfl (own_Lnl hc16).1 ?_
      show Steps p.tables e below (s₁.setTop (mkF m 19 #[.val (.int lo), .val (.int hi), .val (.int ty), .val (.long ((ty.toInt64) - (lo.toInt64))), .second, .val (.long ((hi.toInt64) - (lo.toInt64))), .second] [])) t
      refine XS.lloadN X0.here hx rfl (hb hby own_d2_19) rfl ?_
      show Steps p.tables e below (s₁.setTop (mkF m 20 #[.val (.int lo), .val (.int hi), .val (.int ty), .val (.long ((ty.toInt64) - (lo.toInt64))), .second, .val (.long ((hi.toInt64) - (lo.toInt64))), .second] [(.long ((ty.toInt64) - (lo.toInt64)))])) t
      refine XS.lload X0.here hx rfl (hb hby own_d2_20) rfl ?_
      show Steps p.tables e below (s₁.setTop (mkF m 22 #[.val (.int lo), .val (.int hi), .val (.int ty), .val (.long ((ty.toInt64) - (lo.toInt64))), .second, .val (.long ((hi.toInt64) - (lo.toInt64))), .second] [(.long ((hi.toInt64) - (lo.toInt64))), (.long ((ty.toInt64) - (lo.toInt64)))])) t
      refine XS.lcmp X0.here hx rfl (hb hby own_d2_22) rfl ?_
      exact kt
    by_cases hc23 : ((hi.toInt64) - (lo.toInt64)) < ((ty.toInt64) - (lo.toInt64))
    · skip
      have S4 : ∀ t, Steps p.tables e below (s₁.setTop (mkF m 31 #[.val (.int lo), .val (.int hi), .val (.int ty), .val (.long ((ty.toInt64) - (lo.toInt64))), .second, .val (.long ((hi.toInt64) - (lo.toInt64))), .second] [(.int (0 : Int32))])) t → Steps p.tables e below (s₁.setTop (entryFrame m #[(.int lo), (.int hi), (.int ty)] 7)) t := fun t kt => by
        refine S3 t ?_
        show Steps p.tables e below (s₁.setTop (mkF m 23 #[.val (.int lo), .val (.int hi), .val (.int ty), .val (.long ((ty.toInt64) - (lo.toInt64))), .second, .val (.long ((hi.toInt64) - (lo.toInt64))), .second] [(.int (lcmpW ((ty.toInt64) - (lo.toInt64)) ((hi.toInt64) - (lo.toInt64))))])) t
        refine XS.ifYes X0.here hx rfl (pc0 := 23) (pc' := 30) rfl (hb hby own_d2_23) rfl (own_Llt hc23).2.2.1 (by decide) (by decide) ?_
        show Steps p.tables e below (s₁.setTop (mkF m 30 #[.val (.int lo), .val (.int hi), .val (.int ty), .val (.long ((ty.toInt64) - (lo.toInt64))), .second, .val (.long ((hi.toInt64) - (lo.toInt64))), .second] [])) t
        refine XS.iconst X0.here hx rfl (hb hby own_d2_30) ?_
        exact kt
      obtain ⟨fs, hr, hrun, hended, hW, hsame⟩ := X0.leave (v := some (.int (nar .boolean (0 : Int32)))) (fun h => by rw [Bd.returns] at h; cases h)
      refine ⟨_, _, S4 _ ?_, hrun, hended, _, _, rfl, ?_, ⟨_, rfl⟩, hW, hsame.mono (by decide) (by decide)⟩
      · show Steps p.tables e below (s₁.setTop (mkF m 31 #[.val (.int lo), .val (.int hi), .val (.int ty), .val (.long ((ty.toInt64) - (lo.toInt64))), .second, .val (.long ((hi.toInt64) - (lo.toInt64))), .second] [(.int (0 : Int32))])) _
        exact retN X0 hx (t := .boolean) Bd.returns (by simp) (hb hby own_d2_31) hr
      · show own_Q2 Z lo hi ty h0 n0 _ s₁.heap _
        rw [e0]
        exact ⟨own_leafF (by simp only [own_ir, decide_true, decide_false, not_true_eq_false, not_false_eq_true, and_true, true_and, and_false, false_and, and_self, or_true, true_or, or_false, false_or, or_self, if_true, if_false, Bool.not_true, Bool.not_false, Bool.and_true, Bool.true_and, Bool.and_false, Bool.false_and, *]), rfl, rfl⟩
    · skip
      have S5 : ∀ t, Steps p.tables e below (s₁.setTop (mkF m 31 #[.val (.int lo), .val (.int hi), .val (.int ty), .val (.long ((ty.toInt64) - (lo.toInt64))), .second, .val (.long ((hi.toInt64) - (lo.toInt64))), .second] [(.int (1 : Int32))])) t → Steps p.tables e below (s₁.setTop (entryFrame m #[(.int lo), (.int hi), (.int ty)] 7)) t := fun t kt => by
        refine S3 t ?_
        show Steps p.tables e below (s₁.setTop (mkF m 23 #[.val (.int lo), .val (.int hi), .val (.int ty), .val (.long ((ty.toInt64) - (lo.toInt64))), .second, .val (.long ((hi.toInt64) - (lo.toInt64))), .second] [(.int (lcmpW ((ty.toInt64) - (lo.toInt64)) ((hi.toInt64) - (lo.toInt64))))])) t
        refine XS.ifNo X0.here hx rfl (hb hby own_d2_23) rfl (own_Lnl hc23).2.2.1 ?_
        show Steps p.tables e below (s₁.setTop (mkF m 26 #[.val (.int lo), .val (.int hi), .val (.int ty), .val (.long ((ty.toInt64) - (lo.toInt64))), .second, .val (.long ((hi.toInt64) - (lo.toInt64))), .second] [])) t
        refine XS.iconst X0.here hx rfl (hb hby own_d2_26) ?_
        show Steps p.tables e below (s₁.setTop (mkF m 27 #[.val (.int lo), .val (.int hi), .val (.int ty), .val (.long ((ty.toInt64) - (lo.toInt64))), .second, .val (.long ((hi.toInt64) - (lo.toInt64))), .second] [(.int (1 : Int32))])) t
        refine XS.goto X0.here hx rfl (pc0 := 27) (pc' := 31) rfl (hb hby own_d2_27) (by decide) (by decide) ?_
        exact kt
      obtain ⟨fs, hr, hrun, hended, hW, hsame⟩ := X0.leave (v := some (.int (nar .boolean (1 : Int32)))) (fun h => by rw [Bd.returns] at h; cases h)
      refine ⟨_, _, S5 _ ?_, hrun, hended, _, _, rfl, ?_, ⟨_, rfl⟩, hW, hsame.mono (by decide) (by decide)⟩
      · show Steps p.tables e below (s₁.setTop (mkF m 31 #[.val (.int lo), .val (.int hi), .val (.int ty), .val (.long ((ty.toInt64) - (lo.toInt64))), .second, .val (.long ((hi.toInt64) - (lo.toInt64))), .second] [(.int (1 : Int32))])) _
        exact retN X0 hx (t := .boolean) Bd.returns (by simp) (hb hby own_d2_31) hr
      · show own_Q2 Z lo hi ty h0 n0 _ s₁.heap _
        rw [e0]
        exact ⟨own_leafT (by simp only [own_ir, decide_true, decide_false, not_true_eq_false, not_false_eq_true, and_true, true_and, and_false, false_and, and_self, or_true, true_or, or_false, false_or, or_self, if_true, if_false, Bool.not_true, Bool.not_false, Bool.and_true, Bool.true_and, Bool.and_false, Bool.false_and, *]), rfl, rfl⟩
theorem own_pd0 : parseMethodDescriptor "(I)Z" = some ⟨[.int], some .boolean⟩ := by decide +kernel
theorem own_pd1 : parseMethodDescriptor "(III)Z" = some ⟨[.int, .int, .int], some .boolean⟩ := by decide +kernel
theorem own_ef0 (m : MethodId) (x0 : Int32) (x1 : Int32) (x2 : Int32) : entryFrame m #[(.int x0), (.int x1), (.int x2)] maxLocals = mkF m 0 #[.val (.int x0), .val (.int x1), .val (.int x2), .unset, .unset, .unset, .unset, .unset, .unset, .unset, .unset] [] := by first | (simp [entryFrame, mkF, argsToLocals, Value.category, maxLocals]; done) | rfl
def own_Q0 (Z : State) (sel : Int32) (ty : Int32) (near : Int32) (st_APPLICATION : Addr) (st_SUB_WINDOW : Addr) (st_SYSTEM : Addr) (h0 : Heap) (n0 : Nat) (v : Option Value) (h : Heap) (L : List Loc) : Prop := v = some (.int (1 : Int32)) ∧ Fr n0 L
set_option maxHeartbeats 40000000 in
theorem own_rm0 (l : Launch) (Z : State) (a0 : Array Value) (hw : ∀ d ∈ tables_1, d.before a0 Z = true) (ws : List Jvm.Cond) (sel : Int32) (ty : Int32) (near : Int32) (st_APPLICATION : Addr) (st_SUB_WINDOW : Addr) (st_SYSTEM : Addr) (h0 : Heap) (n0 : Nat) (Z0 : n0 ≤ h0.size) (S_APPLICATION : Sta Z h0 "com/example/mullion/mullion/policy/WindowFamily" "APPLICATION" "Lcom/example/mullion/mullion/policy/WindowFamily;" (.ref st_APPLICATION)) (E_APPLICATION : Exa Z h0 st_APPLICATION "com/example/mullion/mullion/policy/WindowFamily") (A_APPLICATION : Fld Z h0 st_APPLICATION "com/example/mullion/mullion/policy/WindowFamily" "first" "I" (.int (1 : Int32))) (B_APPLICATION : Fld Z h0 st_APPLICATION "com/example/mullion/mullion/policy/WindowFamily" "last" "I" (.int (99 : Int32))) (S_SUB_WINDOW : Sta Z h0 "com/example/mullion/mullion/policy/WindowFamily" "SUB_WINDOW" "Lcom/example/mullion/mullion/policy/WindowFamily;" (.ref st_SUB_WINDOW)) (E_SUB_WINDOW : Exa Z h0 st_SUB_WINDOW "com/example/mullion/mullion/policy/WindowFamily") (A_SUB_WINDOW : Fld Z h0 st_SUB_WINDOW "com/example/mullion/mullion/policy/WindowFamily" "first" "I" (.int (1000 : Int32))) (B_SUB_WINDOW : Fld Z h0 st_SUB_WINDOW "com/example/mullion/mullion/policy/WindowFamily" "last" "I" (.int (1999 : Int32))) (S_SYSTEM : Sta Z h0 "com/example/mullion/mullion/policy/WindowFamily" "SYSTEM" "Lcom/example/mullion/mullion/policy/WindowFamily;" (.ref st_SYSTEM)) (E_SYSTEM : Exa Z h0 st_SYSTEM "com/example/mullion/mullion/policy/WindowFamily") (A_SYSTEM : Fld Z h0 st_SYSTEM "com/example/mullion/mullion/policy/WindowFamily" "first" "I" (.int (2000 : Int32))) (B_SYSTEM : Fld Z h0 st_SYSTEM "com/example/mullion/mullion/policy/WindowFamily" "last" "I" (.int (2999 : Int32))) :
    MetFree l x (head1 (Jvm.Cond.code x code maxLocals ret :: ws) room_1) (fun argv U => argv = #[(.int sel), (.int ty), (.int near)] ∧ Z.Warmed39 U.vm ∧ U.heap = h0) (fun _ _ _ _ _ => True) (fun _ U o U' => ∃ v L, o = .returned v ∧ own_Q0 Z sel ty near st_APPLICATION st_SUB_WINDOW st_SYSTEM h0 n0 v U'.heap L ∧ FrameEnd U o U' L room_1.cells room_1.slots) := by
  refine MetFree.of_bodySF (plainFor_of_name own_pn1) hisR ?_
  intro p e s m args below meth c s₁ Bd hml0 hP hK
  obtain ⟨rfl, hZ, hh⟩ := hP
  have hx := Bd.exec
  have hby := Bd.bytes
  have hml : c.maxLocals = 11 := hml0
  have hown : s.vm.findClass "com/example/mullion/mullion/policy/WindowFamilyContainsPinLaw" = some m.cls := findClass_of_methodNamed Bd.named
  have hnm := (name_of_methodNamed Bd.named Bd.method).1
  have X0 : Stand p l e room_1 s m #[(.int sel), (.int ty), (.int near)] below meth c s₁ [] 0 0 := Stand.of_body Bd
  have e0 : s₁.heap = h0 := by rw [← hh, Bd.state]; rfl
  have N0 := Fr.nil n0
  have pre0 : ∀ t, Steps p.tables e below (s₁.setTop (mkF m 0 #[.val (.int sel), .val (.int ty), .val (.int near), .unset, .unset, .unset, .unset, .unset, .unset, .unset, .unset] [])) t → Steps p.tables e below (s₁.setTop (entryFrame m #[(.int sel), (.int ty), (.int near)] maxLocals)) t := fun t k => castTop (own_ef0 m sel ty near) k
  have S1 : ∀ t, Steps p.tables e below (s₁.setTop (mkF m 8 #[.val (.int sel), .val (.int ty), .val (.int near), .val (.int ((sel &&& (2147483647 : Int32)) % (3 : Int32))), .unset, .unset, .unset, .unset, .unset, .unset, .unset] [(.int ((sel &&& (2147483647 : Int32)) % (3 : Int32)))])) t → Steps p.tables e below (s₁.setTop (entryFrame m #[(.int sel), (.int ty), (.int near)] maxLocals)) t := fun t kt => by
    refine pre0 t ?_
    show Steps p.tables e below (s₁.setTop (mkF m 0 #[.val (.int sel), .val (.int ty), .val (.int near), .unset, .unset, .unset, .unset, .unset, .unset, .unset, .unset] [])) t
    refine XS.iloadN X0.here hx rfl (hb hby at_0) rfl ?_
    show Steps p.tables e below (s₁.setTop (mkF m 1 #[.val (.int sel), .val (.int ty), .val (.int near), .unset, .unset, .unset, .unset, .unset, .unset, .unset, .unset] [(.int sel)])) t
    refine X0.ldcInt hx hown (mvT hZ (hw _ (List.mem_of_getElem? (i := 0) rfl))) (g := (mkF m 1 #[.val (.int sel), .val (.int ty), .val (.int near), .unset, .unset, .unset, .unset, .unset, .unset, .unset, .unset] [(.int sel)])) rfl (hb hby at_1) _ ?_
    show Steps p.tables e below (s₁.setTop (mkF m 3 #[.val (.int sel), .val (.int ty), .val (.int near), .unset, .unset, .unset, .unset, .unset, .unset, .unset, .unset] [(.int (2147483647 : Int32)), (.int sel)])) t
    refine XS.iand X0.here hx rfl (hb hby at_3) rfl ?_
    show Steps p.tables e below (s₁.setTop (mkF m 4 #[.val (.int sel), .val (.int ty), .val (.int near), .unset, .unset, .unset, .unset, .unset, .unset, .unset, .unset] [(.int (sel &&& (2147483647 : Int32)))])) t
    refine XS.iconst X0.here hx rfl (hb hby at_4) ?_
    show Steps p.tables e below (s₁.setTop (mkF m 5 #[.val (.int sel), .val (.int ty), .val (.int near), .unset, .unset, .unset, .unset, .unset, .unset, .unset, .unset] [(.int (3 : Int32)), (.int (sel &&& (2147483647 : Int32)))])) t
    refine iremM X0 hx rfl (hb hby at_5) rfl (by decide) ?_
    show Steps p.tables e below (s₁.setTop (mkF m 6 #[.val (.int sel), .val (.int ty), .val (.int near), .unset, .unset, .unset, .unset, .unset, .unset, .unset, .unset] [(.int ((sel &&& (2147483647 : Int32)) % (3 : Int32)))])) t
    refine XS.istoreN X0.here hx rfl (hb hby at_6) rfl (l' := #[.val (.int sel), .val (.int ty), .val (.int near), .val (.int ((sel &&& (2147483647 : Int32)) % (3 : Int32))), .unset, .unset, .unset, .unset, .unset, .unset, .unset]) rfl ?_
    show Steps p.tables e below (s₁.setTop (mkF m 7 #[.val (.int sel), .val (.int ty), .val (.int near), .val (.int ((sel &&& (2147483647 : Int32)) % (3 : Int32))), .unset, .unset, .unset, .unset, .unset, .unset, .unset] [])) t
    refine XS.iloadN X0.here hx rfl (hb hby at_7) rfl ?_
    exact kt
  by_cases hc8 : ((sel &&& (2147483647 : Int32)) % (3 : Int32)) = (0 : Int32)
  · skip
    have S2 : ∀ t, Steps p.tables e below (s₁.setTop (mkF m 11 #[.val (.int sel), .val (.int ty), .val (.int near), .val (.int ((sel &&& (2147483647 : Int32)) % (3 : Int32))), .unset, .unset, .unset, .unset, .unset, .unset, .unset] [])) t → Steps p.tables e below (s₁.setTop (entryFrame m #[(.int sel), (.int ty), (.int near)] maxLocals)) t := fun t kt => by
      refine S1 t ?_
      show Steps p.tables e below (s₁.setTop (mkF m 8 #[.val (.int sel), .val (.int ty), .val (.int near), .val (.int ((sel &&& (2147483647 : Int32)) % (3 : Int32))), .unset, .unset, .unset, .unset, .unset, .unset, .unset] [(.int ((sel &&& (2147483647 : Int32)) % (3 : Int32)))])) t
      refine XS.ifNo X0.here hx rfl (hb hby at_8) rfl ((if0 _ _).trans (teq hc8).2) ?_
      exact kt
    obtain ⟨T3, X3, e3, st3⟩ := getS2 X0 hx hZ hown (host := "") (Or.inl (hw _ (List.mem_of_getElem? (i := 1) rfl))) Via.refl e0 S_APPLICATION (g := (mkF m 11 #[.val (.int sel), .val (.int ty), .val (.int near), .val (.int ((sel &&& (2147483647 : Int32)) % (3 : Int32))), .unset, .unset, .unset, .unset, .unset, .unset, .unset] [])) rfl (hb hby at_11)
    have S4 : ∀ t, Steps p.tables e below (T3.setTop (mkF m 14 #[.val (.int sel), .val (.int ty), .val (.int near), .val (.int ((sel &&& (2147483647 : Int32)) % (3 : Int32))), .unset, .unset, .unset, .unset, .unset, .unset, .unset] [(.ref st_APPLICATION)])) t → Steps p.tables e below (s₁.setTop (entryFrame m #[(.int sel), (.int ty), (.int near)] maxLocals)) t := fun t kt => S2 t (st3 _ kt)
    have S5 : ∀ t, Steps p.tables e below (T3.setTop (mkF m 71 #[.val (.int sel), .val (.int ty), .val (.int near), .val (.int ((sel &&& (2147483647 : Int32)) % (3 : Int32))), .val (.ref st_APPLICATION), .val (.int (1 : Int32)), .val (.int (99 : Int32)), .val (.int ((near >>> ((1 : Int32) &&& 31)) % (3 : Int32))), .unset, .unset, .unset] [])) t → Steps p.tables e below (s₁.setTop (entryFrame m #[(.int sel), (.int ty), (.int near)] maxLocals)) t := fun t kt => by
      refine S4 t ?_
      show Steps p.tables e below (T3.setTop (mkF m 14 #[.val (.int sel), .val (.int ty), .val (.int near), .val (.int ((sel &&& (2147483647 : Int32)) % (3 : Int32))), .unset, .unset, .unset, .unset, .unset, .unset, .unset] [(.ref st_APPLICATION)])) t
      refine XS.astore X3.here hx rfl (hb hby at_14) rfl rfl (l' := #[.val (.int sel), .val (.int ty), .val (.int near), .val (.int ((sel &&& (2147483647 : Int32)) % (3 : Int32))), .val (.ref st_APPLICATION), .unset, .unset, .unset, .unset, .unset, .unset]) rfl ?_
      show Steps p.tables e below (T3.setTop (mkF m 16 #[.val (.int sel), .val (.int ty), .val (.int near), .val (.int ((sel &&& (2147483647 : Int32)) % (3 : Int32))), .val (.ref st_APPLICATION), .unset, .unset, .unset, .unset, .unset, .unset] [])) t
      refine XS.iconst X3.here hx rfl (hb hby at_16) ?_
      show Steps p.tables e below (T3.setTop (mkF m 17 #[.val (.int sel), .val (.int ty), .val (.int near), .val (.int ((sel &&& (2147483647 : Int32)) % (3 : Int32))), .val (.ref st_APPLICATION), .unset, .unset, .unset, .unset, .unset, .unset] [(.int (1 : Int32))])) t
      refine XS.istore X3.here hx rfl (hb hby at_17) rfl (l' := #[.val (.int sel), .val (.int ty), .val (.int near), .val (.int ((sel &&& (2147483647 : Int32)) % (3 : Int32))), .val (.ref st_APPLICATION), .val (.int (1 : Int32)), .unset, .unset, .unset, .unset, .unset]) rfl ?_
      show Steps p.tables e below (T3.setTop (mkF m 19 #[.val (.int sel), .val (.int ty), .val (.int near), .val (.int ((sel &&& (2147483647 : Int32)) % (3 : Int32))), .val (.ref st_APPLICATION), .val (.int (1 : Int32)), .unset, .unset, .unset, .unset, .unset] [])) t
      refine XS.bipush X3.here hx rfl (hb hby at_19) ?_
      show Steps p.tables e below (T3.setTop (mkF m 21 #[.val (.int sel), .val (.int ty), .val (.int near), .val (.int ((sel &&& (2147483647 : Int32)) % (3 : Int32))), .val (.ref st_APPLICATION), .val (.int (1 : Int32)), .unset, .unset, .unset, .unset, .unset] [(.int (99 : Int32))])) t
      refine XS.istore X3.here hx rfl (hb hby at_21) rfl (l' := #[.val (.int sel), .val (.int ty), .val (.int near), .val (.int ((sel &&& (2147483647 : Int32)) % (3 : Int32))), .val (.ref st_APPLICATION), .val (.int (1 : Int32)), .val (.int (99 : Int32)), .unset, .unset, .unset, .unset]) rfl ?_
      show Steps p.tables e below (T3.setTop (mkF m 23 #[.val (.int sel), .val (.int ty), .val (.int near), .val (.int ((sel &&& (2147483647 : Int32)) % (3 : Int32))), .val (.ref st_APPLICATION), .val (.int (1 : Int32)), .val (.int (99 : Int32)), .unset, .unset, .unset, .unset] [])) t
      refine XS.goto X3.here hx rfl (pc0 := 23) (pc' := 64) rfl (hb hby at_23) (by decide) (by decide) ?_
      show Steps p.tables e below (T3.setTop (mkF m 64 #[.val (.int sel), .val (.int ty), .val (.int near), .val (.int ((sel &&& (2147483647 : Int32)) % (3 : Int32))), .val (.ref st_APPLICATION), .val (.int (1 : Int32)), .val (.int (99 : Int32)), .unset, .unset, .unset, .unset] [])) t
      refine XS.iloadN X3.here hx rfl (hb hby at_64) rfl ?_
      show Steps p.tables e below (T3.setTop (mkF m 65 #[.val (.int sel), .val (.int ty), .val (.int near), .val (.int ((sel &&& (2147483647 : Int32)) % (3 : Int32))), .val (.ref st_APPLICATION), .val (.int (1 : Int32)), .val (.int (99 : Int32)), .unset, .unset, .unset, .unset] [(.int near)])) t
      refine XS.iconst X3.here hx rfl (hb hby at_65) ?_
      show Steps p.tables e below (T3.setTop (mkF m 66 #[.val (.int sel), .val (.int ty), .val (.int near), .val (.int ((sel &&& (2147483647 : Int32)) % (3 : Int32))), .val (.ref st_APPLICATION), .val (.int (1 : Int32)), .val (.int (99 : Int32)), .unset, .unset, .unset, .unset] [(.int (1 : Int32)), (.int near)])) t
      refine XS.ishr X3.here hx rfl (hb hby at_66) rfl ?_
      show Steps p.tables e below (T3.setTop (mkF m 67 #[.val (.int sel), .val (.int ty), .val (.int near), .val (.int ((sel &&& (2147483647 : Int32)) % (3 : Int32))), .val (.ref st_APPLICATION), .val (.int (1 : Int32)), .val (.int (99 : Int32)), .unset, .unset, .unset, .unset] [(.int (near >>> ((1 : Int32) &&& 31)))])) t
      refine XS.iconst X3.here hx rfl (hb hby at_67) ?_
      show Steps p.tables e below (T3.setTop (mkF m 68 #[.val (.int sel), .val (.int ty), .val (.int near), .val (.int ((sel &&& (2147483647 : Int32)) % (3 : Int32))), .val (.ref st_APPLICATION), .val (.int (1 : Int32)), .val (.int (99 : Int32)), .unset, .unset, .unset, .unset] [(.int (3 : Int32)), (.int (near >>> ((1 : Int32) &&& 31)))])) t
      refine iremM X3 hx rfl (hb hby at_68) rfl (by decide) ?_
      show Steps p.tables e below (T3.setTop (mkF m 69 #[.val (.int sel), .val (.int ty), .val (.int near), .val (.int ((sel &&& (2147483647 : Int32)) % (3 : Int32))), .val (.ref st_APPLICATION), .val (.int (1 : Int32)), .val (.int (99 : Int32)), .unset, .unset, .unset, .unset] [(.int ((near >>> ((1 : Int32) &&& 31)) % (3 : Int32)))])) t
      refine XS.istore X3.here hx rfl (hb hby at_69) rfl (l' := #[.val (.int sel), .val (.int ty), .val (.int near), .val (.int ((sel &&& (2147483647 : Int32)) % (3 : Int32))), .val (.ref st_APPLICATION), .val (.int (1 : Int32)), .val (.int (99 : Int32)), .val (.int ((near >>> ((1 : Int32) &&& 31)) % (3 : Int32))), .unset, .unset, .unset]) rfl ?_
      exact kt
    obtain ⟨T6, pr, X6, e6, S6⟩ : ∃ (T' : State) (pr : Int32), own_like X3 T' ∧ T'.heap = h0 ∧ (∀ t, Steps p.tables e below (T'.setTop (mkF m 90 #[.val (.int sel), .val (.int ty), .val (.int near), .val (.int ((sel &&& (2147483647 : Int32)) % (3 : Int32))), .val (.ref st_APPLICATION), .val (.int (1 : Int32)), .val (.int (99 : Int32)), .val (.int ((near >>> ((1 : Int32) &&& 31)) % (3 : Int32))), .unset, .unset, .unset] [(.int pr)])) t → Steps p.tables e below (s₁.setTop (entryFrame m #[(.int sel), (.int ty), (.int near)] maxLocals)) t) := by
      have S7 : ∀ t, Steps p.tables e below (T3.setTop (mkF m 74 #[.val (.int sel), .val (.int ty), .val (.int near), .val (.int ((sel &&& (2147483647 : Int32)) % (3 : Int32))), .val (.ref st_APPLICATION), .val (.int (1 : Int32)), .val (.int (99 : Int32)), .val (.int ((near >>> ((1 : Int32) &&& 31)) % (3 : Int32))), .unset, .unset, .unset] [(.int (near &&& (1 : Int32)))])) t → Steps p.tables e below (s₁.setTop (entryFrame m #[(.int sel), (.int ty), (.int near)] maxLocals)) t := fun t kt => by
        refine S5 t ?_
        show Steps p.tables e below (T3.setTop (mkF m 71 #[.val (.int sel), .val (.int ty), .val (.int near), .val (.int ((sel &&& (2147483647 : Int32)) % (3 : Int32))), .val (.ref st_APPLICATION), .val (.int (1 : Int32)), .val (.int (99 : Int32)), .val (.int ((near >>> ((1 : Int32) &&& 31)) % (3 : Int32))), .unset, .unset, .unset] [])) t
        refine XS.iloadN X3.here hx rfl (hb hby at_71) rfl ?_
        show Steps p.tables e below (T3.setTop (mkF m 72 #[.val (.int sel), .val (.int ty), .val (.int near), .val (.int ((sel &&& (2147483647 : Int32)) % (3 : Int32))), .val (.ref st_APPLICATION), .val (.int (1 : Int32)), .val (.int (99 : Int32)), .val (.int ((near >>> ((1 : Int32) &&& 31)) % (3 : Int32))), .unset, .unset, .unset] [(.int near)])) t
        refine XS.iconst X3.here hx rfl (hb hby at_72) ?_
        show Steps p.tables e below (T3.setTop (mkF m 73 #[.val (.int sel), .val (.int ty), .val (.int near), .val (.int ((sel &&& (2147483647 : Int32)) % (3 : Int32))), .val (.ref st_APPLICATION), .val (.int (1 : Int32)), .val (.int (99 : Int32)), .val (.int ((near >>> ((1 : Int32) &&& 31)) % (3 : Int32))), .unset, .unset, .unset] [(.int (1 : Int32)), (.int near)])) t
        refine XS.iand X3.here hx rfl (hb hby at_73) rfl ?_
        exact kt
      by_cases hc74 : (near &&& (1 : Int32)) = (0 : Int32)
      · skip
        have S8 : ∀ t, Steps p.tables e below (T3.setTop (mkF m 90 #[.val (.int sel), .val (.int ty), .val (.int near), .val (.int ((sel &&& (2147483647 : Int32)) % (3 : Int32))), .val (.ref st_APPLICATION), .val (.int (1 : Int32)), .val (.int (99 : Int32)), .val (.int ((near >>> ((1 : Int32) &&& 31)) % (3 : Int32))), .unset, .unset, .unset] [(.int ((1 : Int32) + ((near >>> ((1 : Int32) &&& 31)) % (3 : Int32))))])) t → Steps p.tables e below (s₁.setTop (entryFrame m #[(.int sel), (.int ty), (.int near)] maxLocals)) t := fun t kt => by
          refine S7 t ?_
          show Steps p.tables e below (T3.setTop (mkF m 74 #[.val (.int sel), .val (.int ty), .val (.int near), .val (.int ((sel &&& (2147483647 : Int32)) % (3 : Int32))), .val (.ref st_APPLICATION), .val (.int (1 : Int32)), .val (.int (99 : Int32)), .val (.int ((near >>> ((1 : Int32) &&& 31)) % (3 : Int32))), .unset, .unset, .unset] [(.int (near &&& (1 : Int32)))])) t
          refine XS.ifNo X3.here hx rfl (hb hby at_74) rfl ((if0 _ _).trans (teq hc74).2) ?_
          show Steps p.tables e below (T3.setTop (mkF m 77 #[.val (.int sel), .val (.int ty), .val (.int near), .val (.int ((sel &&& (2147483647 : Int32)) % (3 : Int32))), .val (.ref st_APPLICATION), .val (.int (1 : Int32)), .val (.int (99 : Int32)), .val (.int ((near >>> ((1 : Int32) &&& 31)) % (3 : Int32))), .unset, .unset, .unset] [])) t
          refine XS.iload X3.here hx rfl (hb hby at_77) rfl ?_
          show Steps p.tables e below (T3.setTop (mkF m 79 #[.val (.int sel), .val (.int ty), .val (.int near), .val (.int ((sel &&& (2147483647 : Int32)) % (3 : Int32))), .val (.ref st_APPLICATION), .val (.int (1 : Int32)), .val (.int (99 : Int32)), .val (.int ((near >>> ((1 : Int32) &&& 31)) % (3 : Int32))), .unset, .unset, .unset] [(.int (1 : Int32))])) t
          refine XS.iload X3.here hx rfl (hb hby at_79) rfl ?_
          show Steps p.tables e below (T3.setTop (mkF m 81 #[.val (.int sel), .val (.int ty), .val (.int near), .val (.int ((sel &&& (2147483647 : Int32)) % (3 : Int32))), .val (.ref st_APPLICATION), .val (.int (1 : Int32)), .val (.int (99 : Int32)), .val (.int ((near >>> ((1 : Int32) &&& 31)) % (3 : Int32))), .unset, .unset, .unset] [(.int ((near >>> ((1 : Int32) &&& 31)) % (3 : Int32))), (.int (1 : Int32))])) t
          refine XS.iadd X3.here hx rfl (hb hby at_81) rfl ?_
          show Steps p.tables e below (T3.setTop (mkF m 82 #[.val (.int sel), .val (.int ty), .val (.int near), .val (.int ((sel &&& (2147483647 : Int32)) % (3 : Int32))), .val (.ref st_APPLICATION), .val (.int (1 : Int32)), .val (.int (99 : Int32)), .val (.int ((near >>> ((1 : Int32) &&& 31)) % (3 : Int32))), .unset, .unset, .unset] [(.int ((1 : Int32) + ((near >>> ((1 : Int32) &&& 31)) % (3 : Int32))))])) t
          refine XS.goto X3.here hx rfl (pc0 := 82) (pc' := 90) rfl (hb hby at_82) (by decide) (by decide) ?_
          exact kt
        exact ⟨T3, (((1 : Int32) + ((near >>> ((1 : Int32) &&& 31)) % (3 : Int32)))), X3, e3, S8⟩
      · skip
        have S9 : ∀ t, Steps p.tables e below (T3.setTop (mkF m 90 #[.val (.int sel), .val (.int ty), .val (.int near), .val (.int ((sel &&& (2147483647 : Int32)) % (3 : Int32))), .val (.ref st_APPLICATION), .val (.int (1 : Int32)), .val (.int (99 : Int32)), .val (.int ((near >>> ((1 : Int32) &&& 31)) % (3 : Int32))), .unset, .unset, .unset] [(.int ((99 : Int32) + ((near >>> ((1 : Int32) &&& 31)) % (3 : Int32))))])) t → Steps p.tables e below (s₁.setTop (entryFrame m #[(.int sel), (.int ty), (.int near)] maxLocals)) t := fun t kt => by
          refine S7 t ?_
          show Steps p.tables e below (T3.setTop (mkF m 74 #[.val (.int sel), .val (.int ty), .val (.int near), .val (.int ((sel &&& (2147483647 : Int32)) % (3 : Int32))), .val (.ref st_APPLICATION), .val (.int (1 : Int32)), .val (.int (99 : Int32)), .val (.int ((near >>> ((1 : Int32) &&& 31)) % (3 : Int32))), .unset, .unset, .unset] [(.int (near &&& (1 : Int32)))])) t
          refine XS.ifYes X3.here hx rfl (pc0 := 74) (pc' := 85) rfl (hb hby at_74) rfl ((if0 _ _).trans (feq hc74).2) (by decide) (by decide) ?_
          show Steps p.tables e below (T3.setTop (mkF m 85 #[.val (.int sel), .val (.int ty), .val (.int near), .val (.int ((sel &&& (2147483647 : Int32)) % (3 : Int32))), .val (.ref st_APPLICATION), .val (.int (1 : Int32)), .val (.int (99 : Int32)), .val (.int ((near >>> ((1 : Int32) &&& 31)) % (3 : Int32))), .unset, .unset, .unset] [])) t
          refine XS.iload X3.here hx rfl (hb hby at_85) rfl ?_
          show Steps p.tables e below (T3.setTop (mkF m 87 #[.val (.int sel), .val (.int ty), .val (.int near), .val (.int ((sel &&& (2147483647 : Int32)) % (3 : Int32))), .val (.ref st_APPLICATION), .val (.int (1 : Int32)), .val (.int (99 : Int32)), .val (.int ((near >>> ((1 : Int32) &&& 31)) % (3 : Int32))), .unset, .unset, .unset] [(.int (99 : Int32))])) t
          refine XS.iload X3.here hx rfl (hb hby at_87) rfl ?_
          show Steps p.tables e below (T3.setTop (mkF m 89 #[.val (.int sel), .val (.int ty), .val (.int near), .val (.int ((sel &&& (2147483647 : Int32)) % (3 : Int32))), .val (.ref st_APPLICATION), .val (.int (1 : Int32)), .val (.int (99 : Int32)), .val (.int ((near >>> ((1 : Int32) &&& 31)) % (3 : Int32))), .unset, .unset, .unset] [(.int ((near >>> ((1 : Int32) &&& 31)) % (3 : Int32))), (.int (99 : Int32))])) t
          refine XS.iadd X3.here hx rfl (hb hby at_89) rfl ?_
          exact kt
        exact ⟨T3, (((99 : Int32) + ((near >>> ((1 : Int32) &&& 31)) % (3 : Int32)))), X3, e3, S9⟩
    have S11 : ∀ t, Steps p.tables e below (T6.setTop (mkF m 95 #[.val (.int sel), .val (.int ty), .val (.int near), .val (.int ((sel &&& (2147483647 : Int32)) % (3 : Int32))), .val (.ref st_APPLICATION), .val (.int (1 : Int32)), .val (.int (99 : Int32)), .val (.int ((near >>> ((1 : Int32) &&& 31)) % (3 : Int32))), .val (.int pr), .unset, .unset] [(.int ty), (.ref st_APPLICATION)])) t → Steps p.tables e below (s₁.setTop (entryFrame m #[(.int sel), (.int ty), (.int near)] maxLocals)) t := fun t kt => by
      refine S6 t ?_
      show Steps p.tables e below (T6.setTop (mkF m 90 #[.val (.int sel), .val (.int ty), .val (.int near), .val (.int ((sel &&& (2147483647 : Int32)) % (3 : Int32))), .val (.ref st_APPLICATION), .val (.int (1 : Int32)), .val (.int (99 : Int32)), .val (.int ((near >>> ((1 : Int32) &&& 31)) % (3 : Int32))), .unset, .unset, .unset] [(.int pr)])) t
      refine XS.istore X6.here hx rfl (hb hby at_90) rfl (l' := #[.val (.int sel), .val (.int ty), .val (.int near), .val (.int ((sel &&& (2147483647 : Int32)) % (3 : Int32))), .val (.ref st_APPLICATION), .val (.int (1 : Int32)), .val (.int (99 : Int32)), .val (.int ((near >>> ((1 : Int32) &&& 31)) % (3 : Int32))), .val (.int pr), .unset, .unset]) rfl ?_
      show Steps p.tables e below (T6.setTop (mkF m 92 #[.val (.int sel), .val (.int ty), .val (.int near), .val (.int ((sel &&& (2147483647 : Int32)) % (3 : Int32))), .val (.ref st_APPLICATION), .val (.int (1 : Int32)), .val (.int (99 : Int32)), .val (.int ((near >>> ((1 : Int32) &&& 31)) % (3 : Int32))), .val (.int pr), .unset, .unset] [])) t
      refine XS.aload X6.here hx rfl (hb hby at_92) rfl rfl ?_
      show Steps p.tables e below (T6.setTop (mkF m 94 #[.val (.int sel), .val (.int ty), .val (.int near), .val (.int ((sel &&& (2147483647 : Int32)) % (3 : Int32))), .val (.ref st_APPLICATION), .val (.int (1 : Int32)), .val (.int (99 : Int32)), .val (.int ((near >>> ((1 : Int32) &&& 31)) % (3 : Int32))), .val (.int pr), .unset, .unset] [(.ref st_APPLICATION)])) t
      refine XS.iloadN X6.here hx rfl (hb hby at_94) rfl ?_
      exact kt
    obtain ⟨cq12, kq12, q12a, q12b, q12c⟩ := isOf hZ e6 E_APPLICATION
    obtain ⟨_, _, ⟨T12, L12, k12, n12⟩, -, X12, ⟨Lc12, hQ12, l12, y12, z12⟩, st12⟩ := X6.virtualBack hx (y := (⟨"com/example/mullion/mullion/policy/WindowFamily", "contains", "(I)Z"⟩ : MethodName)) (z := (⟨"com/example/mullion/mullion/policy/WindowFamily", "contains", "(I)Z"⟩ : MethodName)) hown (mvT hZ (hw _ (List.mem_of_getElem? (i := 4) rfl))) (mvT hZ (hw _ (List.mem_of_getElem? (i := 5) rfl))) (notFace_of_selects (args := #[]) (mvT hZ (hw _ (List.mem_of_getElem? (i := 7) rfl)))) (mvT hZ (hw _ (List.mem_of_getElem? (i := 7) rfl))) (mvT hZ (hw _ (List.mem_of_getElem? (i := 6) rfl))) (by decide) (backOf (W := 0) (own_rm1 l Z a0 hw [] (st_APPLICATION) (ty) ((1 : Int32)) ((99 : Int32)) h0 n0 Z0 A_APPLICATION B_APPLICATION) hZ (hw _ (List.mem_of_getElem? (i := 8) rfl)) (hw _ (List.mem_of_getElem? (i := 2) rfl)) (by decide) (by decide)) q12a q12c (g := (mkF m 95 #[.val (.int sel), .val (.int ty), .val (.int near), .val (.int ((sel &&& (2147483647 : Int32)) % (3 : Int32))), .val (.ref st_APPLICATION), .val (.int (1 : Int32)), .val (.int (99 : Int32)), .val (.int ((near >>> ((1 : Int32) &&& 31)) % (3 : Int32))), .val (.int pr), .unset, .unset] [(.int ty), (.ref st_APPLICATION)])) rfl (by rw [hml]; rfl) (Steps.refl _) (argsL := [(.int ty)]) (rest := []) (lenOf own_pd0 rfl) rfl (by show 2 * 0 + _ ≤ _; exact Nat.le_of_eq rfl) (hb hby at_95) (fun _ _ => ⟨rfl, e6, (by decide : 0 + 0 ≤ _), (by decide : 0 + 0 ≤ _)⟩)
    dsimp only [Pt.U, Pt.locs, Pt.cells, Pt.slots] at X12 l12 y12 z12 st12 hQ12
    subst l12 y12 z12
    obtain ⟨rfl, rfl, eq10⟩ := hQ12
    try rw [List.append_nil] at X12
    have S13 : ∀ t, Steps p.tables e below (T12.setTop (mkF m 98 #[.val (.int sel), .val (.int ty), .val (.int near), .val (.int ((sel &&& (2147483647 : Int32)) % (3 : Int32))), .val (.ref st_APPLICATION), .val (.int (1 : Int32)), .val (.int (99 : Int32)), .val (.int ((near >>> ((1 : Int32) &&& 31)) % (3 : Int32))), .val (.int pr), .unset, .unset] [(.int (own_b (own_ct ty (1 : Int32) (99 : Int32))))])) t → Steps p.tables e below (s₁.setTop (entryFrame m #[(.int sel), (.int ty), (.int near)] maxLocals)) t := fun t kt => S11 t (st12.trans kt)
    have S15 : ∀ t, Steps p.tables e below (T12.setTop (mkF m 103 #[.val (.int sel), .val (.int ty), .val (.int near), .val (.int ((sel &&& (2147483647 : Int32)) % (3 : Int32))), .val (.ref st_APPLICATION), .val (.int (1 : Int32)), .val (.int (99 : Int32)), .val (.int ((near >>> ((1 : Int32) &&& 31)) % (3 : Int32))), .val (.int pr), .unset, .unset] [(.int ty), (.int (99 : Int32)), (.int (1 : Int32)), (.int (own_b (own_ct ty (1 : Int32) (99 : Int32))))])) t → Steps p.tables e below (s₁.setTop (entryFrame m #[(.int sel), (.int ty), (.int near)] maxLocals)) t := fun t kt => by
      refine S13 t ?_
      show Steps p.tables e below (T12.setTop (mkF m 98 #[.val (.int sel), .val (.int ty), .val (.int near), .val (.int ((sel &&& (2147483647 : Int32)) % (3 : Int32))), .val (.ref st_APPLICATION), .val (.int (1 : Int32)), .val (.int (99 : Int32)), .val (.int ((near >>> ((1 : Int32) &&& 31)) % (3 : Int32))), .val (.int pr), .unset, .unset] [(.int (own_b (own_ct ty (1 : Int32) (99 : Int32))))])) t
      refine XS.iload X12.here hx rfl (hb hby at_98) rfl ?_
      show Steps p.tables e below (T12.setTop (mkF m 100 #[.val (.int sel), .val (.int ty), .val (.int near), .val (.int ((sel &&& (2147483647 : Int32)) % (3 : Int32))), .val (.ref st_APPLICATION), .val (.int (1 : Int32)), .val (.int (99 : Int32)), .val (.int ((near >>> ((1 : Int32) &&& 31)) % (3 : Int32))), .val (.int pr), .unset, .unset] [(.int (1 : Int32)), (.int (own_b (own_ct ty (1 : Int32) (99 : Int32))))])) t
      refine XS.iload X12.here hx rfl (hb hby at_100) rfl ?_
      show Steps p.tables e below (T12.setTop (mkF m 102 #[.val (.int sel), .val (.int ty), .val (.int near), .val (.int ((sel &&& (2147483647 : Int32)) % (3 : Int32))), .val (.ref st_APPLICATION), .val (.int (1 : Int32)), .val (.int (99 : Int32)), .val (.int ((near >>> ((1 : Int32) &&& 31)) % (3 : Int32))), .val (.int pr), .unset, .unset] [(.int (99 : Int32)), (.int (1 : Int32)), (.int (own_b (own_ct ty (1 : Int32) (99 : Int32))))])) t
      refine XS.iloadN X12.here hx rfl (hb hby at_102) rfl ?_
      exact kt
    obtain ⟨_, _, ⟨T16, L16, k16, n16⟩, -, X16, ⟨Lc16, hQ16, l16, y16, z16⟩, st16⟩ := Jvm.LawKit.callS X12 hx (y := (⟨"com/example/mullion/mullion/policy/WindowFamilyContainsPinLaw", "inRange", "(III)Z"⟩ : MethodName)) hown (mvT hZ (hw _ (List.mem_of_getElem? (i := 13) rfl))) (mvT hZ (hw _ (List.mem_of_getElem? (i := 14) rfl))) (mvT hZ (hw _ (List.mem_of_getElem? (i := 15) rfl))) (mvT hZ (hw _ (List.mem_of_getElem? (i := 16) rfl))) (by decide) (backOf (W := 1) (own_rm2 l Z a0 hw [] ((1 : Int32)) ((99 : Int32)) (ty) h0 n0 Z0) hZ (hw _ (List.mem_of_getElem? (i := 16) rfl)) (hw _ (List.mem_of_getElem? (i := 15) rfl)) (by decide) (by decide)) (g := (mkF m 103 #[.val (.int sel), .val (.int ty), .val (.int near), .val (.int ((sel &&& (2147483647 : Int32)) % (3 : Int32))), .val (.ref st_APPLICATION), .val (.int (1 : Int32)), .val (.int (99 : Int32)), .val (.int ((near >>> ((1 : Int32) &&& 31)) % (3 : Int32))), .val (.int pr), .unset, .unset] [(.int ty), (.int (99 : Int32)), (.int (1 : Int32)), (.int (own_b (own_ct ty (1 : Int32) (99 : Int32))))])) rfl (by rw [hml]; rfl) (argsL := [(.int (1 : Int32)), (.int (99 : Int32)), (.int ty)]) (rest := [(.int (own_b (own_ct ty (1 : Int32) (99 : Int32))))]) (lenOf own_pd1 rfl) rfl (by show 2 * 0 + _ ≤ _; exact Nat.le_of_eq rfl) (hb hby at_103) (fun _ _ => ⟨rfl, eq10, (by decide : 0 + 0 ≤ _), (by decide : 0 + 0 ≤ _)⟩)
    dsimp only [Pt.U, Pt.locs, Pt.cells, Pt.slots] at X16 l16 y16 z16 st16 hQ16
    subst l16 y16 z16
    obtain ⟨rfl, rfl, eq14⟩ := hQ16
    try rw [List.append_nil] at X16
    have S17 : ∀ t, Steps p.tables e below (T16.setTop (mkF m 106 #[.val (.int sel), .val (.int ty), .val (.int near), .val (.int ((sel &&& (2147483647 : Int32)) % (3 : Int32))), .val (.ref st_APPLICATION), .val (.int (1 : Int32)), .val (.int (99 : Int32)), .val (.int ((near >>> ((1 : Int32) &&& 31)) % (3 : Int32))), .val (.int pr), .unset, .unset] [(.int (own_b (own_ir (1 : Int32) (99 : Int32) ty))), (.int (own_b (own_ct ty (1 : Int32) (99 : Int32))))])) t → Steps p.tables e below (s₁.setTop (entryFrame m #[(.int sel), (.int ty), (.int near)] maxLocals)) t := fun t kt => S15 t (st16 _ kt)
    have hc106_18 : (own_b (own_ct ty (1 : Int32) (99 : Int32))) = (own_b (own_ir (1 : Int32) (99 : Int32) ty)) := own_plain _ _ _ (by decide)
    have S20 : ∀ t, Steps p.tables e below (T16.setTop (mkF m 120 #[.val (.int sel), .val (.int ty), .val (.int near), .val (.int ((sel &&& (2147483647 : Int32)) % (3 : Int32))), .val (.ref st_APPLICATION), .val (.int (1 : Int32)), .val (.int (99 : Int32)), .val (.int ((near >>> ((1 : Int32) &&& 31)) % (3 : Int32))), .val (.int pr), .val (.int (1 : Int32)), .unset] [(.int pr), (.ref st_APPLICATION)])) t → Steps p.tables e below (s₁.setTop (entryFrame m #[(.int sel), (.int ty), (.int near)] maxLocals)) t := fun t kt => by
      refine S17 t ?_
      show Steps p.tables e below (T16.setTop (mkF m 106 #[.val (.int sel), .val (.int ty), .val (.int near), .val (.int ((sel &&& (2147483647 : Int32)) % (3 : Int32))), .val (.ref st_APPLICATION), .val (.int (1 : Int32)), .val (.int (99 : Int32)), .val (.int ((near >>> ((1 : Int32) &&& 31)) % (3 : Int32))), .val (.int pr), .unset, .unset] [(.int (own_b (own_ir (1 : Int32) (99 : Int32) ty))), (.int (own_b (own_ct ty (1 : Int32) (99 : Int32))))])) t
      refine XS.icmpNo X16.here hx rfl (hb hby at_106) rfl (teq hc106_18).2 ?_
      show Steps p.tables e below (T16.setTop (mkF m 109 #[.val (.int sel), .val (.int ty), .val (.int near), .val (.int ((sel &&& (2147483647 : Int32)) % (3 : Int32))), .val (.ref st_APPLICATION), .val (.int (1 : Int32)), .val (.int (99 : Int32)), .val (.int ((near >>> ((1 : Int32) &&& 31)) % (3 : Int32))), .val (.int pr), .unset, .unset] [])) t
      refine XS.iconst X16.here hx rfl (hb hby at_109) ?_
      show Steps p.tables e below (T16.setTop (mkF m 110 #[.val (.int sel), .val (.int ty), .val (.int near), .val (.int ((sel &&& (2147483647 : Int32)) % (3 : Int32))), .val (.ref st_APPLICATION), .val (.int (1 : Int32)), .val (.int (99 : Int32)), .val (.int ((near >>> ((1 : Int32) &&& 31)) % (3 : Int32))), .val (.int pr), .unset, .unset] [(.int (1 : Int32))])) t
      refine XS.goto X16.here hx rfl (pc0 := 110) (pc' := 114) rfl (hb hby at_110) (by decide) (by decide) ?_
      show Steps p.tables e below (T16.setTop (mkF m 114 #[.val (.int sel), .val (.int ty), .val (.int near), .val (.int ((sel &&& (2147483647 : Int32)) % (3 : Int32))), .val (.ref st_APPLICATION), .val (.int (1 : Int32)), .val (.int (99 : Int32)), .val (.int ((near >>> ((1 : Int32) &&& 31)) % (3 : Int32))), .val (.int pr), .unset, .unset] [(.int (1 : Int32))])) t
      refine XS.istore X16.here hx rfl (hb hby at_114) rfl (l' := #[.val (.int sel), .val (.int ty), .val (.int near), .val (.int ((sel &&& (2147483647 : Int32)) % (3 : Int32))), .val (.ref st_APPLICATION), .val (.int (1 : Int32)), .val (.int (99 : Int32)), .val (.int ((near >>> ((1 : Int32) &&& 31)) % (3 : Int32))), .val (.int pr), .val (.int (1 : Int32)), .unset]) rfl ?_
      show Steps p.tables e below (T16.setTop (mkF m 116 #[.val (.int sel), .val (.int ty), .val (.int near), .val (.int ((sel &&& (2147483647 : Int32)) % (3 : Int32))), .val (.ref st_APPLICATION), .val (.int (1 : Int32)), .val (.int (99 : Int32)), .val (.int ((near >>> ((1 : Int32) &&& 31)) % (3 : Int32))), .val (.int pr), .val (.int (1 : Int32)), .unset] [])) t
      refine XS.aload X16.here hx rfl (hb hby at_116) rfl rfl ?_
      show Steps p.tables e below (T16.setTop (mkF m 118 #[.val (.int sel), .val (.int ty), .val (.int near), .val (.int ((sel &&& (2147483647 : Int32)) % (3 : Int32))), .val (.ref st_APPLICATION), .val (.int (1 : Int32)), .val (.int (99 : Int32)), .val (.int ((near >>> ((1 : Int32) &&& 31)) % (3 : Int32))), .val (.int pr), .val (.int (1 : Int32)), .unset] [(.ref st_APPLICATION)])) t
      refine XS.iload X16.here hx rfl (hb hby at_118) rfl ?_
      exact kt
    obtain ⟨cq21, kq21, q21a, q21b, q21c⟩ := isOf hZ eq14 E_APPLICATION
    obtain ⟨_, _, ⟨T21, L21, k21, n21⟩, -, X21, ⟨Lc21, hQ21, l21, y21, z21⟩, st21⟩ := X16.virtualBack hx (y := (⟨"com/example/mullion/mullion/policy/WindowFamily", "contains", "(I)Z"⟩ : MethodName)) (z := (⟨"com/example/mullion/mullion/policy/WindowFamily", "contains", "(I)Z"⟩ : MethodName)) hown (mvT hZ (hw _ (List.mem_of_getElem? (i := 4) rfl))) (mvT hZ (hw _ (List.mem_of_getElem? (i := 5) rfl))) (notFace_of_selects (args := #[]) (mvT hZ (hw _ (List.mem_of_getElem? (i := 7) rfl)))) (mvT hZ (hw _ (List.mem_of_getElem? (i := 7) rfl))) (mvT hZ (hw _ (List.mem_of_getElem? (i := 6) rfl))) (by decide) (backOf (W := 0) (own_rm1 l Z a0 hw [] (st_APPLICATION) (pr) ((1 : Int32)) ((99 : Int32)) h0 n0 Z0 A_APPLICATION B_APPLICATION) hZ (hw _ (List.mem_of_getElem? (i := 8) rfl)) (hw _ (List.mem_of_getElem? (i := 2) rfl)) (by decide) (by decide)) q21a q21c (g := (mkF m 120 #[.val (.int sel), .val (.int ty), .val (.int near), .val (.int ((sel &&& (2147483647 : Int32)) % (3 : Int32))), .val (.ref st_APPLICATION), .val (.int (1 : Int32)), .val (.int (99 : Int32)), .val (.int ((near >>> ((1 : Int32) &&& 31)) % (3 : Int32))), .val (.int pr), .val (.int (1 : Int32)), .unset] [(.int pr), (.ref st_APPLICATION)])) rfl (by rw [hml]; rfl) (Steps.refl _) (argsL := [(.int pr)]) (rest := []) (lenOf own_pd0 rfl) rfl (by show 2 * 0 + _ ≤ _; exact Nat.le_of_eq rfl) (hb hby at_120) (fun _ _ => ⟨rfl, eq14, (by decide : 0 + 0 ≤ _), (by decide : 0 + 0 ≤ _)⟩)
    dsimp only [Pt.U, Pt.locs, Pt.cells, Pt.slots] at X21 l21 y21 z21 st21 hQ21
    subst l21 y21 z21
    obtain ⟨rfl, rfl, eq19⟩ := hQ21
    try rw [List.append_nil] at X21
    have S22 : ∀ t, Steps p.tables e below (T21.setTop (mkF m 123 #[.val (.int sel), .val (.int ty), .val (.int near), .val (.int ((sel &&& (2147483647 : Int32)) % (3 : Int32))), .val (.ref st_APPLICATION), .val (.int (1 : Int32)), .val (.int (99 : Int32)), .val (.int ((near >>> ((1 : Int32) &&& 31)) % (3 : Int32))), .val (.int pr), .val (.int (1 : Int32)), .unset] [(.int (own_b (own_ct pr (1 : Int32) (99 : Int32))))])) t → Steps p.tables e below (s₁.setTop (entryFrame m #[(.int sel), (.int ty), (.int near)] maxLocals)) t := fun t kt => S20 t (st21.trans kt)
    have S24 : ∀ t, Steps p.tables e below (T21.setTop (mkF m 129 #[.val (.int sel), .val (.int ty), .val (.int near), .val (.int ((sel &&& (2147483647 : Int32)) % (3 : Int32))), .val (.ref st_APPLICATION), .val (.int (1 : Int32)), .val (.int (99 : Int32)), .val (.int ((near >>> ((1 : Int32) &&& 31)) % (3 : Int32))), .val (.int pr), .val (.int (1 : Int32)), .unset] [(.int pr), (.int (99 : Int32)), (.int (1 : Int32)), (.int (own_b (own_ct pr (1 : Int32) (99 : Int32))))])) t → Steps p.tables e below (s₁.setTop (entryFrame m #[(.int sel), (.int ty), (.int near)] maxLocals)) t := fun t kt => by
      refine S22 t ?_
      show Steps p.tables e below (T21.setTop (mkF m 123 #[.val (.int sel), .val (.int ty), .val (.int near), .val (.int ((sel &&& (2147483647 : Int32)) % (3 : Int32))), .val (.ref st_APPLICATION), .val (.int (1 : Int32)), .val (.int (99 : Int32)), .val (.int ((near >>> ((1 : Int32) &&& 31)) % (3 : Int32))), .val (.int pr), .val (.int (1 : Int32)), .unset] [(.int (own_b (own_ct pr (1 : Int32) (99 : Int32))))])) t
      refine XS.iload X21.here hx rfl (hb hby at_123) rfl ?_
      show Steps p.tables e below (T21.setTop (mkF m 125 #[.val (.int sel), .val (.int ty), .val (.int near), .val (.int ((sel &&& (2147483647 : Int32)) % (3 : Int32))), .val (.ref st_APPLICATION), .val (.int (1 : Int32)), .val (.int (99 : Int32)), .val (.int ((near >>> ((1 : Int32) &&& 31)) % (3 : Int32))), .val (.int pr), .val (.int (1 : Int32)), .unset] [(.int (1 : Int32)), (.int (own_b (own_ct pr (1 : Int32) (99 : Int32))))])) t
      refine XS.iload X21.here hx rfl (hb hby at_125) rfl ?_
      show Steps p.tables e below (T21.setTop (mkF m 127 #[.val (.int sel), .val (.int ty), .val (.int near), .val (.int ((sel &&& (2147483647 : Int32)) % (3 : Int32))), .val (.ref st_APPLICATION), .val (.int (1 : Int32)), .val (.int (99 : Int32)), .val (.int ((near >>> ((1 : Int32) &&& 31)) % (3 : Int32))), .val (.int pr), .val (.int (1 : Int32)), .unset] [(.int (99 : Int32)), (.int (1 : Int32)), (.int (own_b (own_ct pr (1 : Int32) (99 : Int32))))])) t
      refine XS.iload X21.here hx rfl (hb hby at_127) rfl ?_
      exact kt
    obtain ⟨_, _, ⟨T25, L25, k25, n25⟩, -, X25, ⟨Lc25, hQ25, l25, y25, z25⟩, st25⟩ := Jvm.LawKit.callS X21 hx (y := (⟨"com/example/mullion/mullion/policy/WindowFamilyContainsPinLaw", "inRange", "(III)Z"⟩ : MethodName)) hown (mvT hZ (hw _ (List.mem_of_getElem? (i := 13) rfl))) (mvT hZ (hw _ (List.mem_of_getElem? (i := 14) rfl))) (mvT hZ (hw _ (List.mem_of_getElem? (i := 15) rfl))) (mvT hZ (hw _ (List.mem_of_getElem? (i := 16) rfl))) (by decide) (backOf (W := 1) (own_rm2 l Z a0 hw [] ((1 : Int32)) ((99 : Int32)) (pr) h0 n0 Z0) hZ (hw _ (List.mem_of_getElem? (i := 16) rfl)) (hw _ (List.mem_of_getElem? (i := 15) rfl)) (by decide) (by decide)) (g := (mkF m 129 #[.val (.int sel), .val (.int ty), .val (.int near), .val (.int ((sel &&& (2147483647 : Int32)) % (3 : Int32))), .val (.ref st_APPLICATION), .val (.int (1 : Int32)), .val (.int (99 : Int32)), .val (.int ((near >>> ((1 : Int32) &&& 31)) % (3 : Int32))), .val (.int pr), .val (.int (1 : Int32)), .unset] [(.int pr), (.int (99 : Int32)), (.int (1 : Int32)), (.int (own_b (own_ct pr (1 : Int32) (99 : Int32))))])) rfl (by rw [hml]; rfl) (argsL := [(.int (1 : Int32)), (.int (99 : Int32)), (.int pr)]) (rest := [(.int (own_b (own_ct pr (1 : Int32) (99 : Int32))))]) (lenOf own_pd1 rfl) rfl (by show 2 * 0 + _ ≤ _; exact Nat.le_of_eq rfl) (hb hby at_129) (fun _ _ => ⟨rfl, eq19, (by decide : 0 + 0 ≤ _), (by decide : 0 + 0 ≤ _)⟩)
    dsimp only [Pt.U, Pt.locs, Pt.cells, Pt.slots] at X25 l25 y25 z25 st25 hQ25
    subst l25 y25 z25
    obtain ⟨rfl, rfl, eq23⟩ := hQ25
    try rw [List.append_nil] at X25
    have S26 : ∀ t, Steps p.tables e below (T25.setTop (mkF m 132 #[.val (.int sel), .val (.int ty), .val (.int near), .val (.int ((sel &&& (2147483647 : Int32)) % (3 : Int32))), .val (.ref st_APPLICATION), .val (.int (1 : Int32)), .val (.int (99 : Int32)), .val (.int ((near >>> ((1 : Int32) &&& 31)) % (3 : Int32))), .val (.int pr), .val (.int (1 : Int32)), .unset] [(.int (own_b (own_ir (1 : Int32) (99 : Int32) pr))), (.int (own_b (own_ct pr (1 : Int32) (99 : Int32))))])) t → Steps p.tables e below (s₁.setTop (entryFrame m #[(.int sel), (.int ty), (.int near)] maxLocals)) t := fun t kt => S24 t (st25 _ kt)
    have hc132_27 : (own_b (own_ct pr (1 : Int32) (99 : Int32))) = (own_b (own_ir (1 : Int32) (99 : Int32) pr)) := own_plain _ _ _ (by decide)
    have S28 : ∀ t, Steps p.tables e below (T25.setTop (mkF m 144 #[.val (.int sel), .val (.int ty), .val (.int near), .val (.int ((sel &&& (2147483647 : Int32)) % (3 : Int32))), .val (.ref st_APPLICATION), .val (.int (1 : Int32)), .val (.int (99 : Int32)), .val (.int ((near >>> ((1 : Int32) &&& 31)) % (3 : Int32))), .val (.int pr), .val (.int (1 : Int32)), .val (.int (1 : Int32))] [(.int (1 : Int32))])) t → Steps p.tables e below (s₁.setTop (entryFrame m #[(.int sel), (.int ty), (.int near)] maxLocals)) t := fun t kt => by
      refine S26 t ?_
      show Steps p.tables e below (T25.setTop (mkF m 132 #[.val (.int sel), .val (.int ty), .val (.int near), .val (.int ((sel &&& (2147483647 : Int32)) % (3 : Int32))), .val (.ref st_APPLICATION), .val (.int (1 : Int32)), .val (.int (99 : Int32)), .val (.int ((near >>> ((1 : Int32) &&& 31)) % (3 : Int32))), .val (.int pr), .val (.int (1 : Int32)), .unset] [(.int (own_b (own_ir (1 : Int32) (99 : Int32) pr))), (.int (own_b (own_ct pr (1 : Int32) (99 : Int32))))])) t
      refine XS.icmpNo X25.here hx rfl (hb hby at_132) rfl (teq hc132_27).2 ?_
      show Steps p.tables e below (T25.setTop (mkF m 135 #[.val (.int sel), .val (.int ty), .val (.int near), .val (.int ((sel &&& (2147483647 : Int32)) % (3 : Int32))), .val (.ref st_APPLICATION), .val (.int (1 : Int32)), .val (.int (99 : Int32)), .val (.int ((near >>> ((1 : Int32) &&& 31)) % (3 : Int32))), .val (.int pr), .val (.int (1 : Int32)), .unset] [])) t
      refine XS.iconst X25.here hx rfl (hb hby at_135) ?_
      show Steps p.tables e below (T25.setTop (mkF m 136 #[.val (.int sel), .val (.int ty), .val (.int near), .val (.int ((sel &&& (2147483647 : Int32)) % (3 : Int32))), .val (.ref st_APPLICATION), .val (.int (1 : Int32)), .val (.int (99 : Int32)), .val (.int ((near >>> ((1 : Int32) &&& 31)) % (3 : Int32))), .val (.int pr), .val (.int (1 : Int32)), .unset] [(.int (1 : Int32))])) t
      refine XS.goto X25.here hx rfl (pc0 := 136) (pc' := 140) rfl (hb hby at_136) (by decide) (by decide) ?_
      show Steps p.tables e below (T25.setTop (mkF m 140 #[.val (.int sel), .val (.int ty), .val (.int near), .val (.int ((sel &&& (2147483647 : Int32)) % (3 : Int32))), .val (.ref st_APPLICATION), .val (.int (1 : Int32)), .val (.int (99 : Int32)), .val (.int ((near >>> ((1 : Int32) &&& 31)) % (3 : Int32))), .val (.int pr), .val (.int (1 : Int32)), .unset] [(.int (1 : Int32))])) t
      refine XS.istore X25.here hx rfl (hb hby at_140) rfl (l' := #[.val (.int sel), .val (.int ty), .val (.int near), .val (.int ((sel &&& (2147483647 : Int32)) % (3 : Int32))), .val (.ref st_APPLICATION), .val (.int (1 : Int32)), .val (.int (99 : Int32)), .val (.int ((near >>> ((1 : Int32) &&& 31)) % (3 : Int32))), .val (.int pr), .val (.int (1 : Int32)), .val (.int (1 : Int32))]) rfl ?_
      show Steps p.tables e below (T25.setTop (mkF m 142 #[.val (.int sel), .val (.int ty), .val (.int near), .val (.int ((sel &&& (2147483647 : Int32)) % (3 : Int32))), .val (.ref st_APPLICATION), .val (.int (1 : Int32)), .val (.int (99 : Int32)), .val (.int ((near >>> ((1 : Int32) &&& 31)) % (3 : Int32))), .val (.int pr), .val (.int (1 : Int32)), .val (.int (1 : Int32))] [])) t
      refine XS.iload X25.here hx rfl (hb hby at_142) rfl ?_
      exact kt
    have hc144_29 : ¬ ((1 : Int32) = (0 : Int32)) := by decide
    have S30 : ∀ t, Steps p.tables e below (T25.setTop (mkF m 149 #[.val (.int sel), .val (.int ty), .val (.int near), .val (.int ((sel &&& (2147483647 : Int32)) % (3 : Int32))), .val (.ref st_APPLICATION), .val (.int (1 : Int32)), .val (.int (99 : Int32)), .val (.int ((near >>> ((1 : Int32) &&& 31)) % (3 : Int32))), .val (.int pr), .val (.int (1 : Int32)), .val (.int (1 : Int32))] [(.int (1 : Int32))])) t → Steps p.tables e below (s₁.setTop (entryFrame m #[(.int sel), (.int ty), (.int near)] maxLocals)) t := fun t kt => by
      refine S28 t ?_
      show Steps p.tables e below (T25.setTop (mkF m 144 #[.val (.int sel), .val (.int ty), .val (.int near), .val (.int ((sel &&& (2147483647 : Int32)) % (3 : Int32))), .val (.ref st_APPLICATION), .val (.int (1 : Int32)), .val (.int (99 : Int32)), .val (.int ((near >>> ((1 : Int32) &&& 31)) % (3 : Int32))), .val (.int pr), .val (.int (1 : Int32)), .val (.int (1 : Int32))] [(.int (1 : Int32))])) t
      refine XS.ifNo X25.here hx rfl (hb hby at_144) rfl ((if0 _ _).trans (feq hc144_29).1) ?_
      show Steps p.tables e below (T25.setTop (mkF m 147 #[.val (.int sel), .val (.int ty), .val (.int near), .val (.int ((sel &&& (2147483647 : Int32)) % (3 : Int32))), .val (.ref st_APPLICATION), .val (.int (1 : Int32)), .val (.int (99 : Int32)), .val (.int ((near >>> ((1 : Int32) &&& 31)) % (3 : Int32))), .val (.int pr), .val (.int (1 : Int32)), .val (.int (1 : Int32))] [])) t
      refine XS.iload X25.here hx rfl (hb hby at_147) rfl ?_
      exact kt
    have hc149_31 : ¬ ((1 : Int32) = (0 : Int32)) := by decide
    have S32 : ∀ t, Steps p.tables e below (T25.setTop (mkF m 157 #[.val (.int sel), .val (.int ty), .val (.int near), .val (.int ((sel &&& (2147483647 : Int32)) % (3 : Int32))), .val (.ref st_APPLICATION), .val (.int (1 : Int32)), .val (.int (99 : Int32)), .val (.int ((near >>> ((1 : Int32) &&& 31)) % (3 : Int32))), .val (.int pr), .val (.int (1 : Int32)), .val (.int (1 : Int32))] [(.int (1 : Int32))])) t → Steps p.tables e below (s₁.setTop (entryFrame m #[(.int sel), (.int ty), (.int near)] maxLocals)) t := fun t kt => by
      refine S30 t ?_
      show Steps p.tables e below (T25.setTop (mkF m 149 #[.val (.int sel), .val (.int ty), .val (.int near), .val (.int ((sel &&& (2147483647 : Int32)) % (3 : Int32))), .val (.ref st_APPLICATION), .val (.int (1 : Int32)), .val (.int (99 : Int32)), .val (.int ((near >>> ((1 : Int32) &&& 31)) % (3 : Int32))), .val (.int pr), .val (.int (1 : Int32)), .val (.int (1 : Int32))] [(.int (1 : Int32))])) t
      refine XS.ifNo X25.here hx rfl (hb hby at_149) rfl ((if0 _ _).trans (feq hc149_31).1) ?_
      show Steps p.tables e below (T25.setTop (mkF m 152 #[.val (.int sel), .val (.int ty), .val (.int near), .val (.int ((sel &&& (2147483647 : Int32)) % (3 : Int32))), .val (.ref st_APPLICATION), .val (.int (1 : Int32)), .val (.int (99 : Int32)), .val (.int ((near >>> ((1 : Int32) &&& 31)) % (3 : Int32))), .val (.int pr), .val (.int (1 : Int32)), .val (.int (1 : Int32))] [])) t
      refine XS.iconst X25.here hx rfl (hb hby at_152) ?_
      show Steps p.tables e below (T25.setTop (mkF m 153 #[.val (.int sel), .val (.int ty), .val (.int near), .val (.int ((sel &&& (2147483647 : Int32)) % (3 : Int32))), .val (.ref st_APPLICATION), .val (.int (1 : Int32)), .val (.int (99 : Int32)), .val (.int ((near >>> ((1 : Int32) &&& 31)) % (3 : Int32))), .val (.int pr), .val (.int (1 : Int32)), .val (.int (1 : Int32))] [(.int (1 : Int32))])) t
      refine XS.goto X25.here hx rfl (pc0 := 153) (pc' := 157) rfl (hb hby at_153) (by decide) (by decide) ?_
      exact kt
    obtain ⟨fs, hr, hrun, hended, hW, hsame⟩ := X25.leave (v := some (.int (nar .boolean (1 : Int32)))) (fun h => by rw [Bd.returns] at h; cases h)
    refine ⟨_, _, S32 _ ?_, hrun, hended, _, _, rfl, ?_, ⟨_, rfl⟩, hW, hsame.mono (by decide) (by decide)⟩
    · show Steps p.tables e below (T25.setTop (mkF m 157 #[.val (.int sel), .val (.int ty), .val (.int near), .val (.int ((sel &&& (2147483647 : Int32)) % (3 : Int32))), .val (.ref st_APPLICATION), .val (.int (1 : Int32)), .val (.int (99 : Int32)), .val (.int ((near >>> ((1 : Int32) &&& 31)) % (3 : Int32))), .val (.int pr), .val (.int (1 : Int32)), .val (.int (1 : Int32))] [(.int (1 : Int32))])) _
      exact retN X25 hx (t := .boolean) Bd.returns (by simp) (hb hby at_157) hr
    · show own_Q0 Z sel ty near st_APPLICATION st_SUB_WINDOW st_SYSTEM h0 n0 _ T25.heap _
      rw [eq23]
      exact ⟨rfl, N0⟩
  · skip
    have S33 : ∀ t, Steps p.tables e below (s₁.setTop (mkF m 28 #[.val (.int sel), .val (.int ty), .val (.int near), .val (.int ((sel &&& (2147483647 : Int32)) % (3 : Int32))), .unset, .unset, .unset, .unset, .unset, .unset, .unset] [(.int (1 : Int32)), (.int ((sel &&& (2147483647 : Int32)) % (3 : Int32)))])) t → Steps p.tables e below (s₁.setTop (entryFrame m #[(.int sel), (.int ty), (.int near)] maxLocals)) t := fun t kt => by
      refine S1 t ?_
      show Steps p.tables e below (s₁.setTop (mkF m 8 #[.val (.int sel), .val (.int ty), .val (.int near), .val (.int ((sel &&& (2147483647 : Int32)) % (3 : Int32))), .unset, .unset, .unset, .unset, .unset, .unset, .unset] [(.int ((sel &&& (2147483647 : Int32)) % (3 : Int32)))])) t
      refine XS.ifYes X0.here hx rfl (pc0 := 8) (pc' := 26) rfl (hb hby at_8) rfl ((if0 _ _).trans (feq hc8).2) (by decide) (by decide) ?_
      show Steps p.tables e below (s₁.setTop (mkF m 26 #[.val (.int sel), .val (.int ty), .val (.int near), .val (.int ((sel &&& (2147483647 : Int32)) % (3 : Int32))), .unset, .unset, .unset, .unset, .unset, .unset, .unset] [])) t
      refine XS.iloadN X0.here hx rfl (hb hby at_26) rfl ?_
      show Steps p.tables e below (s₁.setTop (mkF m 27 #[.val (.int sel), .val (.int ty), .val (.int near), .val (.int ((sel &&& (2147483647 : Int32)) % (3 : Int32))), .unset, .unset, .unset, .unset, .unset, .unset, .unset] [(.int ((sel &&& (2147483647 : Int32)) % (3 : Int32)))])) t
      refine XS.iconst X0.here hx rfl (hb hby at_27) ?_
      exact kt
    by_cases hc28 : ((sel &&& (2147483647 : Int32)) % (3 : Int32)) = (1 : Int32)
    · skip
      have S34 : ∀ t, Steps p.tables e below (s₁.setTop (mkF m 31 #[.val (.int sel), .val (.int ty), .val (.int near), .val (.int ((sel &&& (2147483647 : Int32)) % (3 : Int32))), .unset, .unset, .unset, .unset, .unset, .unset, .unset] [])) t → Steps p.tables e below (s₁.setTop (entryFrame m #[(.int sel), (.int ty), (.int near)] maxLocals)) t := fun t kt => by
        refine S33 t ?_
        show Steps p.tables e below (s₁.setTop (mkF m 28 #[.val (.int sel), .val (.int ty), .val (.int near), .val (.int ((sel &&& (2147483647 : Int32)) % (3 : Int32))), .unset, .unset, .unset, .unset, .unset, .unset, .unset] [(.int (1 : Int32)), (.int ((sel &&& (2147483647 : Int32)) % (3 : Int32)))])) t
        refine XS.icmpNo X0.here hx rfl (hb hby at_28) rfl (teq hc28).2 ?_
        exact kt
      obtain ⟨T35, X35, e35, st35⟩ := getS2 X0 hx hZ hown (host := "") (Or.inl (hw _ (List.mem_of_getElem? (i := 17) rfl))) Via.refl e0 S_SUB_WINDOW (g := (mkF m 31 #[.val (.int sel), .val (.int ty), .val (.int near), .val (.int ((sel &&& (2147483647 : Int32)) % (3 : Int32))), .unset, .unset, .unset, .unset, .unset, .unset, .unset] [])) rfl (hb hby at_31)
      have S36 : ∀ t, Steps p.tables e below (T35.setTop (mkF m 34 #[.val (.int sel), .val (.int ty), .val (.int near), .val (.int ((sel &&& (2147483647 : Int32)) % (3 : Int32))), .unset, .unset, .unset, .unset, .unset, .unset, .unset] [(.ref st_SUB_WINDOW)])) t → Steps p.tables e below (s₁.setTop (entryFrame m #[(.int sel), (.int ty), (.int near)] maxLocals)) t := fun t kt => S34 t (st35 _ kt)
      have S37 : ∀ t, Steps p.tables e below (T35.setTop (mkF m 71 #[.val (.int sel), .val (.int ty), .val (.int near), .val (.int ((sel &&& (2147483647 : Int32)) % (3 : Int32))), .val (.ref st_SUB_WINDOW), .val (.int (1000 : Int32)), .val (.int (1999 : Int32)), .val (.int ((near >>> ((1 : Int32) &&& 31)) % (3 : Int32))), .unset, .unset, .unset] [])) t → Steps p.tables e below (s₁.setTop (entryFrame m #[(.int sel), (.int ty), (.int near)] maxLocals)) t := fun t kt => by
        refine S36 t ?_
        show Steps p.tables e below (T35.setTop (mkF m 34 #[.val (.int sel), .val (.int ty), .val (.int near), .val (.int ((sel &&& (2147483647 : Int32)) % (3 : Int32))), .unset, .unset, .unset, .unset, .unset, .unset, .unset] [(.ref st_SUB_WINDOW)])) t
        refine XS.astore X35.here hx rfl (hb hby at_34) rfl rfl (l' := #[.val (.int sel), .val (.int ty), .val (.int near), .val (.int ((sel &&& (2147483647 : Int32)) % (3 : Int32))), .val (.ref st_SUB_WINDOW), .unset, .unset, .unset, .unset, .unset, .unset]) rfl ?_
        show Steps p.tables e below (T35.setTop (mkF m 36 #[.val (.int sel), .val (.int ty), .val (.int near), .val (.int ((sel &&& (2147483647 : Int32)) % (3 : Int32))), .val (.ref st_SUB_WINDOW), .unset, .unset, .unset, .unset, .unset, .unset] [])) t
        refine XS.sipush X35.here hx rfl (hb hby at_36) ?_
        show Steps p.tables e below (T35.setTop (mkF m 39 #[.val (.int sel), .val (.int ty), .val (.int near), .val (.int ((sel &&& (2147483647 : Int32)) % (3 : Int32))), .val (.ref st_SUB_WINDOW), .unset, .unset, .unset, .unset, .unset, .unset] [(.int (1000 : Int32))])) t
        refine XS.istore X35.here hx rfl (hb hby at_39) rfl (l' := #[.val (.int sel), .val (.int ty), .val (.int near), .val (.int ((sel &&& (2147483647 : Int32)) % (3 : Int32))), .val (.ref st_SUB_WINDOW), .val (.int (1000 : Int32)), .unset, .unset, .unset, .unset, .unset]) rfl ?_
        show Steps p.tables e below (T35.setTop (mkF m 41 #[.val (.int sel), .val (.int ty), .val (.int near), .val (.int ((sel &&& (2147483647 : Int32)) % (3 : Int32))), .val (.ref st_SUB_WINDOW), .val (.int (1000 : Int32)), .unset, .unset, .unset, .unset, .unset] [])) t
        refine XS.sipush X35.here hx rfl (hb hby at_41) ?_
        show Steps p.tables e below (T35.setTop (mkF m 44 #[.val (.int sel), .val (.int ty), .val (.int near), .val (.int ((sel &&& (2147483647 : Int32)) % (3 : Int32))), .val (.ref st_SUB_WINDOW), .val (.int (1000 : Int32)), .unset, .unset, .unset, .unset, .unset] [(.int (1999 : Int32))])) t
        refine XS.istore X35.here hx rfl (hb hby at_44) rfl (l' := #[.val (.int sel), .val (.int ty), .val (.int near), .val (.int ((sel &&& (2147483647 : Int32)) % (3 : Int32))), .val (.ref st_SUB_WINDOW), .val (.int (1000 : Int32)), .val (.int (1999 : Int32)), .unset, .unset, .unset, .unset]) rfl ?_
        show Steps p.tables e below (T35.setTop (mkF m 46 #[.val (.int sel), .val (.int ty), .val (.int near), .val (.int ((sel &&& (2147483647 : Int32)) % (3 : Int32))), .val (.ref st_SUB_WINDOW), .val (.int (1000 : Int32)), .val (.int (1999 : Int32)), .unset, .unset, .unset, .unset] [])) t
        refine XS.goto X35.here hx rfl (pc0 := 46) (pc' := 64) rfl (hb hby at_46) (by decide) (by decide) ?_
        show Steps p.tables e below (T35.setTop (mkF m 64 #[.val (.int sel), .val (.int ty), .val (.int near), .val (.int ((sel &&& (2147483647 : Int32)) % (3 : Int32))), .val (.ref st_SUB_WINDOW), .val (.int (1000 : Int32)), .val (.int (1999 : Int32)), .unset, .unset, .unset, .unset] [])) t
        refine XS.iloadN X35.here hx rfl (hb hby at_64) rfl ?_
        show Steps p.tables e below (T35.setTop (mkF m 65 #[.val (.int sel), .val (.int ty), .val (.int near), .val (.int ((sel &&& (2147483647 : Int32)) % (3 : Int32))), .val (.ref st_SUB_WINDOW), .val (.int (1000 : Int32)), .val (.int (1999 : Int32)), .unset, .unset, .unset, .unset] [(.int near)])) t
        refine XS.iconst X35.here hx rfl (hb hby at_65) ?_
        show Steps p.tables e below (T35.setTop (mkF m 66 #[.val (.int sel), .val (.int ty), .val (.int near), .val (.int ((sel &&& (2147483647 : Int32)) % (3 : Int32))), .val (.ref st_SUB_WINDOW), .val (.int (1000 : Int32)), .val (.int (1999 : Int32)), .unset, .unset, .unset, .unset] [(.int (1 : Int32)), (.int near)])) t
        refine XS.ishr X35.here hx rfl (hb hby at_66) rfl ?_
        show Steps p.tables e below (T35.setTop (mkF m 67 #[.val (.int sel), .val (.int ty), .val (.int near), .val (.int ((sel &&& (2147483647 : Int32)) % (3 : Int32))), .val (.ref st_SUB_WINDOW), .val (.int (1000 : Int32)), .val (.int (1999 : Int32)), .unset, .unset, .unset, .unset] [(.int (near >>> ((1 : Int32) &&& 31)))])) t
        refine XS.iconst X35.here hx rfl (hb hby at_67) ?_
        show Steps p.tables e below (T35.setTop (mkF m 68 #[.val (.int sel), .val (.int ty), .val (.int near), .val (.int ((sel &&& (2147483647 : Int32)) % (3 : Int32))), .val (.ref st_SUB_WINDOW), .val (.int (1000 : Int32)), .val (.int (1999 : Int32)), .unset, .unset, .unset, .unset] [(.int (3 : Int32)), (.int (near >>> ((1 : Int32) &&& 31)))])) t
        refine iremM X35 hx rfl (hb hby at_68) rfl (by decide) ?_
        show Steps p.tables e below (T35.setTop (mkF m 69 #[.val (.int sel), .val (.int ty), .val (.int near), .val (.int ((sel &&& (2147483647 : Int32)) % (3 : Int32))), .val (.ref st_SUB_WINDOW), .val (.int (1000 : Int32)), .val (.int (1999 : Int32)), .unset, .unset, .unset, .unset] [(.int ((near >>> ((1 : Int32) &&& 31)) % (3 : Int32)))])) t
        refine XS.istore X35.here hx rfl (hb hby at_69) rfl (l' := #[.val (.int sel), .val (.int ty), .val (.int near), .val (.int ((sel &&& (2147483647 : Int32)) % (3 : Int32))), .val (.ref st_SUB_WINDOW), .val (.int (1000 : Int32)), .val (.int (1999 : Int32)), .val (.int ((near >>> ((1 : Int32) &&& 31)) % (3 : Int32))), .unset, .unset, .unset]) rfl ?_
        exact kt
      obtain ⟨T38, pr, X38, e38, S38⟩ : ∃ (T' : State) (pr : Int32), own_like X35 T' ∧ T'.heap = h0 ∧ (∀ t, Steps p.tables e below (T'.setTop (mkF m 90 #[.val (.int sel), .val (.int ty), .val (.int near), .val (.int ((sel &&& (2147483647 : Int32)) % (3 : Int32))), .val (.ref st_SUB_WINDOW), .val (.int (1000 : Int32)), .val (.int (1999 : Int32)), .val (.int ((near >>> ((1 : Int32) &&& 31)) % (3 : Int32))), .unset, .unset, .unset] [(.int pr)])) t → Steps p.tables e below (s₁.setTop (entryFrame m #[(.int sel), (.int ty), (.int near)] maxLocals)) t) := by
        have S39 : ∀ t, Steps p.tables e below (T35.setTop (mkF m 74 #[.val (.int sel), .val (.int ty), .val (.int near), .val (.int ((sel &&& (2147483647 : Int32)) % (3 : Int32))), .val (.ref st_SUB_WINDOW), .val (.int (1000 : Int32)), .val (.int (1999 : Int32)), .val (.int ((near >>> ((1 : Int32) &&& 31)) % (3 : Int32))), .unset, .unset, .unset] [(.int (near &&& (1 : Int32)))])) t → Steps p.tables e below (s₁.setTop (entryFrame m #[(.int sel), (.int ty), (.int near)] maxLocals)) t := fun t kt => by
          refine S37 t ?_
          show Steps p.tables e below (T35.setTop (mkF m 71 #[.val (.int sel), .val (.int ty), .val (.int near), .val (.int ((sel &&& (2147483647 : Int32)) % (3 : Int32))), .val (.ref st_SUB_WINDOW), .val (.int (1000 : Int32)), .val (.int (1999 : Int32)), .val (.int ((near >>> ((1 : Int32) &&& 31)) % (3 : Int32))), .unset, .unset, .unset] [])) t
          refine XS.iloadN X35.here hx rfl (hb hby at_71) rfl ?_
          show Steps p.tables e below (T35.setTop (mkF m 72 #[.val (.int sel), .val (.int ty), .val (.int near), .val (.int ((sel &&& (2147483647 : Int32)) % (3 : Int32))), .val (.ref st_SUB_WINDOW), .val (.int (1000 : Int32)), .val (.int (1999 : Int32)), .val (.int ((near >>> ((1 : Int32) &&& 31)) % (3 : Int32))), .unset, .unset, .unset] [(.int near)])) t
          refine XS.iconst X35.here hx rfl (hb hby at_72) ?_
          show Steps p.tables e below (T35.setTop (mkF m 73 #[.val (.int sel), .val (.int ty), .val (.int near), .val (.int ((sel &&& (2147483647 : Int32)) % (3 : Int32))), .val (.ref st_SUB_WINDOW), .val (.int (1000 : Int32)), .val (.int (1999 : Int32)), .val (.int ((near >>> ((1 : Int32) &&& 31)) % (3 : Int32))), .unset, .unset, .unset] [(.int (1 : Int32)), (.int near)])) t
          refine XS.iand X35.here hx rfl (hb hby at_73) rfl ?_
          exact kt
        by_cases hc74 : (near &&& (1 : Int32)) = (0 : Int32)
        · skip
          have S40 : ∀ t, Steps p.tables e below (T35.setTop (mkF m 90 #[.val (.int sel), .val (.int ty), .val (.int near), .val (.int ((sel &&& (2147483647 : Int32)) % (3 : Int32))), .val (.ref st_SUB_WINDOW), .val (.int (1000 : Int32)), .val (.int (1999 : Int32)), .val (.int ((near >>> ((1 : Int32) &&& 31)) % (3 : Int32))), .unset, .unset, .unset] [(.int ((1000 : Int32) + ((near >>> ((1 : Int32) &&& 31)) % (3 : Int32))))])) t → Steps p.tables e below (s₁.setTop (entryFrame m #[(.int sel), (.int ty), (.int near)] maxLocals)) t := fun t kt => by
            refine S39 t ?_
            show Steps p.tables e below (T35.setTop (mkF m 74 #[.val (.int sel), .val (.int ty), .val (.int near), .val (.int ((sel &&& (2147483647 : Int32)) % (3 : Int32))), .val (.ref st_SUB_WINDOW), .val (.int (1000 : Int32)), .val (.int (1999 : Int32)), .val (.int ((near >>> ((1 : Int32) &&& 31)) % (3 : Int32))), .unset, .unset, .unset] [(.int (near &&& (1 : Int32)))])) t
            refine XS.ifNo X35.here hx rfl (hb hby at_74) rfl ((if0 _ _).trans (teq hc74).2) ?_
            show Steps p.tables e below (T35.setTop (mkF m 77 #[.val (.int sel), .val (.int ty), .val (.int near), .val (.int ((sel &&& (2147483647 : Int32)) % (3 : Int32))), .val (.ref st_SUB_WINDOW), .val (.int (1000 : Int32)), .val (.int (1999 : Int32)), .val (.int ((near >>> ((1 : Int32) &&& 31)) % (3 : Int32))), .unset, .unset, .unset] [])) t
            refine XS.iload X35.here hx rfl (hb hby at_77) rfl ?_
            show Steps p.tables e below (T35.setTop (mkF m 79 #[.val (.int sel), .val (.int ty), .val (.int near), .val (.int ((sel &&& (2147483647 : Int32)) % (3 : Int32))), .val (.ref st_SUB_WINDOW), .val (.int (1000 : Int32)), .val (.int (1999 : Int32)), .val (.int ((near >>> ((1 : Int32) &&& 31)) % (3 : Int32))), .unset, .unset, .unset] [(.int (1000 : Int32))])) t
            refine XS.iload X35.here hx rfl (hb hby at_79) rfl ?_
            show Steps p.tables e below (T35.setTop (mkF m 81 #[.val (.int sel), .val (.int ty), .val (.int near), .val (.int ((sel &&& (2147483647 : Int32)) % (3 : Int32))), .val (.ref st_SUB_WINDOW), .val (.int (1000 : Int32)), .val (.int (1999 : Int32)), .val (.int ((near >>> ((1 : Int32) &&& 31)) % (3 : Int32))), .unset, .unset, .unset] [(.int ((near >>> ((1 : Int32) &&& 31)) % (3 : Int32))), (.int (1000 : Int32))])) t
            refine XS.iadd X35.here hx rfl (hb hby at_81) rfl ?_
            show Steps p.tables e below (T35.setTop (mkF m 82 #[.val (.int sel), .val (.int ty), .val (.int near), .val (.int ((sel &&& (2147483647 : Int32)) % (3 : Int32))), .val (.ref st_SUB_WINDOW), .val (.int (1000 : Int32)), .val (.int (1999 : Int32)), .val (.int ((near >>> ((1 : Int32) &&& 31)) % (3 : Int32))), .unset, .unset, .unset] [(.int ((1000 : Int32) + ((near >>> ((1 : Int32) &&& 31)) % (3 : Int32))))])) t
            refine XS.goto X35.here hx rfl (pc0 := 82) (pc' := 90) rfl (hb hby at_82) (by decide) (by decide) ?_
            exact kt
          exact ⟨T35, (((1000 : Int32) + ((near >>> ((1 : Int32) &&& 31)) % (3 : Int32)))), X35, e35, S40⟩
        · skip
          have S41 : ∀ t, Steps p.tables e below (T35.setTop (mkF m 90 #[.val (.int sel), .val (.int ty), .val (.int near), .val (.int ((sel &&& (2147483647 : Int32)) % (3 : Int32))), .val (.ref st_SUB_WINDOW), .val (.int (1000 : Int32)), .val (.int (1999 : Int32)), .val (.int ((near >>> ((1 : Int32) &&& 31)) % (3 : Int32))), .unset, .unset, .unset] [(.int ((1999 : Int32) + ((near >>> ((1 : Int32) &&& 31)) % (3 : Int32))))])) t → Steps p.tables e below (s₁.setTop (entryFrame m #[(.int sel), (.int ty), (.int near)] maxLocals)) t := fun t kt => by
            refine S39 t ?_
            show Steps p.tables e below (T35.setTop (mkF m 74 #[.val (.int sel), .val (.int ty), .val (.int near), .val (.int ((sel &&& (2147483647 : Int32)) % (3 : Int32))), .val (.ref st_SUB_WINDOW), .val (.int (1000 : Int32)), .val (.int (1999 : Int32)), .val (.int ((near >>> ((1 : Int32) &&& 31)) % (3 : Int32))), .unset, .unset, .unset] [(.int (near &&& (1 : Int32)))])) t
            refine XS.ifYes X35.here hx rfl (pc0 := 74) (pc' := 85) rfl (hb hby at_74) rfl ((if0 _ _).trans (feq hc74).2) (by decide) (by decide) ?_
            show Steps p.tables e below (T35.setTop (mkF m 85 #[.val (.int sel), .val (.int ty), .val (.int near), .val (.int ((sel &&& (2147483647 : Int32)) % (3 : Int32))), .val (.ref st_SUB_WINDOW), .val (.int (1000 : Int32)), .val (.int (1999 : Int32)), .val (.int ((near >>> ((1 : Int32) &&& 31)) % (3 : Int32))), .unset, .unset, .unset] [])) t
            refine XS.iload X35.here hx rfl (hb hby at_85) rfl ?_
            show Steps p.tables e below (T35.setTop (mkF m 87 #[.val (.int sel), .val (.int ty), .val (.int near), .val (.int ((sel &&& (2147483647 : Int32)) % (3 : Int32))), .val (.ref st_SUB_WINDOW), .val (.int (1000 : Int32)), .val (.int (1999 : Int32)), .val (.int ((near >>> ((1 : Int32) &&& 31)) % (3 : Int32))), .unset, .unset, .unset] [(.int (1999 : Int32))])) t
            refine XS.iload X35.here hx rfl (hb hby at_87) rfl ?_
            show Steps p.tables e below (T35.setTop (mkF m 89 #[.val (.int sel), .val (.int ty), .val (.int near), .val (.int ((sel &&& (2147483647 : Int32)) % (3 : Int32))), .val (.ref st_SUB_WINDOW), .val (.int (1000 : Int32)), .val (.int (1999 : Int32)), .val (.int ((near >>> ((1 : Int32) &&& 31)) % (3 : Int32))), .unset, .unset, .unset] [(.int ((near >>> ((1 : Int32) &&& 31)) % (3 : Int32))), (.int (1999 : Int32))])) t
            refine XS.iadd X35.here hx rfl (hb hby at_89) rfl ?_
            exact kt
          exact ⟨T35, (((1999 : Int32) + ((near >>> ((1 : Int32) &&& 31)) % (3 : Int32)))), X35, e35, S41⟩
      have S43 : ∀ t, Steps p.tables e below (T38.setTop (mkF m 95 #[.val (.int sel), .val (.int ty), .val (.int near), .val (.int ((sel &&& (2147483647 : Int32)) % (3 : Int32))), .val (.ref st_SUB_WINDOW), .val (.int (1000 : Int32)), .val (.int (1999 : Int32)), .val (.int ((near >>> ((1 : Int32) &&& 31)) % (3 : Int32))), .val (.int pr), .unset, .unset] [(.int ty), (.ref st_SUB_WINDOW)])) t → Steps p.tables e below (s₁.setTop (entryFrame m #[(.int sel), (.int ty), (.int near)] maxLocals)) t := fun t kt => by
        refine S38 t ?_
        show Steps p.tables e below (T38.setTop (mkF m 90 #[.val (.int sel), .val (.int ty), .val (.int near), .val (.int ((sel &&& (2147483647 : Int32)) % (3 : Int32))), .val (.ref st_SUB_WINDOW), .val (.int (1000 : Int32)), .val (.int (1999 : Int32)), .val (.int ((near >>> ((1 : Int32) &&& 31)) % (3 : Int32))), .unset, .unset, .unset] [(.int pr)])) t
        refine XS.istore X38.here hx rfl (hb hby at_90) rfl (l' := #[.val (.int sel), .val (.int ty), .val (.int near), .val (.int ((sel &&& (2147483647 : Int32)) % (3 : Int32))), .val (.ref st_SUB_WINDOW), .val (.int (1000 : Int32)), .val (.int (1999 : Int32)), .val (.int ((near >>> ((1 : Int32) &&& 31)) % (3 : Int32))), .val (.int pr), .unset, .unset]) rfl ?_
        show Steps p.tables e below (T38.setTop (mkF m 92 #[.val (.int sel), .val (.int ty), .val (.int near), .val (.int ((sel &&& (2147483647 : Int32)) % (3 : Int32))), .val (.ref st_SUB_WINDOW), .val (.int (1000 : Int32)), .val (.int (1999 : Int32)), .val (.int ((near >>> ((1 : Int32) &&& 31)) % (3 : Int32))), .val (.int pr), .unset, .unset] [])) t
        refine XS.aload X38.here hx rfl (hb hby at_92) rfl rfl ?_
        show Steps p.tables e below (T38.setTop (mkF m 94 #[.val (.int sel), .val (.int ty), .val (.int near), .val (.int ((sel &&& (2147483647 : Int32)) % (3 : Int32))), .val (.ref st_SUB_WINDOW), .val (.int (1000 : Int32)), .val (.int (1999 : Int32)), .val (.int ((near >>> ((1 : Int32) &&& 31)) % (3 : Int32))), .val (.int pr), .unset, .unset] [(.ref st_SUB_WINDOW)])) t
        refine XS.iloadN X38.here hx rfl (hb hby at_94) rfl ?_
        exact kt
      obtain ⟨cq44, kq44, q44a, q44b, q44c⟩ := isOf hZ e38 E_SUB_WINDOW
      obtain ⟨_, _, ⟨T44, L44, k44, n44⟩, -, X44, ⟨Lc44, hQ44, l44, y44, z44⟩, st44⟩ := X38.virtualBack hx (y := (⟨"com/example/mullion/mullion/policy/WindowFamily", "contains", "(I)Z"⟩ : MethodName)) (z := (⟨"com/example/mullion/mullion/policy/WindowFamily", "contains", "(I)Z"⟩ : MethodName)) hown (mvT hZ (hw _ (List.mem_of_getElem? (i := 4) rfl))) (mvT hZ (hw _ (List.mem_of_getElem? (i := 5) rfl))) (notFace_of_selects (args := #[]) (mvT hZ (hw _ (List.mem_of_getElem? (i := 7) rfl)))) (mvT hZ (hw _ (List.mem_of_getElem? (i := 7) rfl))) (mvT hZ (hw _ (List.mem_of_getElem? (i := 6) rfl))) (by decide) (backOf (W := 0) (own_rm1 l Z a0 hw [] (st_SUB_WINDOW) (ty) ((1000 : Int32)) ((1999 : Int32)) h0 n0 Z0 A_SUB_WINDOW B_SUB_WINDOW) hZ (hw _ (List.mem_of_getElem? (i := 8) rfl)) (hw _ (List.mem_of_getElem? (i := 2) rfl)) (by decide) (by decide)) q44a q44c (g := (mkF m 95 #[.val (.int sel), .val (.int ty), .val (.int near), .val (.int ((sel &&& (2147483647 : Int32)) % (3 : Int32))), .val (.ref st_SUB_WINDOW), .val (.int (1000 : Int32)), .val (.int (1999 : Int32)), .val (.int ((near >>> ((1 : Int32) &&& 31)) % (3 : Int32))), .val (.int pr), .unset, .unset] [(.int ty), (.ref st_SUB_WINDOW)])) rfl (by rw [hml]; rfl) (Steps.refl _) (argsL := [(.int ty)]) (rest := []) (lenOf own_pd0 rfl) rfl (by show 2 * 0 + _ ≤ _; exact Nat.le_of_eq rfl) (hb hby at_95) (fun _ _ => ⟨rfl, e38, (by decide : 0 + 0 ≤ _), (by decide : 0 + 0 ≤ _)⟩)
      dsimp only [Pt.U, Pt.locs, Pt.cells, Pt.slots] at X44 l44 y44 z44 st44 hQ44
      subst l44 y44 z44
      obtain ⟨rfl, rfl, eq42⟩ := hQ44
      try rw [List.append_nil] at X44
      have S45 : ∀ t, Steps p.tables e below (T44.setTop (mkF m 98 #[.val (.int sel), .val (.int ty), .val (.int near), .val (.int ((sel &&& (2147483647 : Int32)) % (3 : Int32))), .val (.ref st_SUB_WINDOW), .val (.int (1000 : Int32)), .val (.int (1999 : Int32)), .val (.int ((near >>> ((1 : Int32) &&& 31)) % (3 : Int32))), .val (.int pr), .unset, .unset] [(.int (own_b (own_ct ty (1000 : Int32) (1999 : Int32))))])) t → Steps p.tables e below (s₁.setTop (entryFrame m #[(.int sel), (.int ty), (.int near)] maxLocals)) t := fun t kt => S43 t (st44.trans kt)
      have S47 : ∀ t, Steps p.tables e below (T44.setTop (mkF m 103 #[.val (.int sel), .val (.int ty), .val (.int near), .val (.int ((sel &&& (2147483647 : Int32)) % (3 : Int32))), .val (.ref st_SUB_WINDOW), .val (.int (1000 : Int32)), .val (.int (1999 : Int32)), .val (.int ((near >>> ((1 : Int32) &&& 31)) % (3 : Int32))), .val (.int pr), .unset, .unset] [(.int ty), (.int (1999 : Int32)), (.int (1000 : Int32)), (.int (own_b (own_ct ty (1000 : Int32) (1999 : Int32))))])) t → Steps p.tables e below (s₁.setTop (entryFrame m #[(.int sel), (.int ty), (.int near)] maxLocals)) t := fun t kt => by
        refine S45 t ?_
        show Steps p.tables e below (T44.setTop (mkF m 98 #[.val (.int sel), .val (.int ty), .val (.int near), .val (.int ((sel &&& (2147483647 : Int32)) % (3 : Int32))), .val (.ref st_SUB_WINDOW), .val (.int (1000 : Int32)), .val (.int (1999 : Int32)), .val (.int ((near >>> ((1 : Int32) &&& 31)) % (3 : Int32))), .val (.int pr), .unset, .unset] [(.int (own_b (own_ct ty (1000 : Int32) (1999 : Int32))))])) t
        refine XS.iload X44.here hx rfl (hb hby at_98) rfl ?_
        show Steps p.tables e below (T44.setTop (mkF m 100 #[.val (.int sel), .val (.int ty), .val (.int near), .val (.int ((sel &&& (2147483647 : Int32)) % (3 : Int32))), .val (.ref st_SUB_WINDOW), .val (.int (1000 : Int32)), .val (.int (1999 : Int32)), .val (.int ((near >>> ((1 : Int32) &&& 31)) % (3 : Int32))), .val (.int pr), .unset, .unset] [(.int (1000 : Int32)), (.int (own_b (own_ct ty (1000 : Int32) (1999 : Int32))))])) t
        refine XS.iload X44.here hx rfl (hb hby at_100) rfl ?_
        show Steps p.tables e below (T44.setTop (mkF m 102 #[.val (.int sel), .val (.int ty), .val (.int near), .val (.int ((sel &&& (2147483647 : Int32)) % (3 : Int32))), .val (.ref st_SUB_WINDOW), .val (.int (1000 : Int32)), .val (.int (1999 : Int32)), .val (.int ((near >>> ((1 : Int32) &&& 31)) % (3 : Int32))), .val (.int pr), .unset, .unset] [(.int (1999 : Int32)), (.int (1000 : Int32)), (.int (own_b (own_ct ty (1000 : Int32) (1999 : Int32))))])) t
        refine XS.iloadN X44.here hx rfl (hb hby at_102) rfl ?_
        exact kt
      obtain ⟨_, _, ⟨T48, L48, k48, n48⟩, -, X48, ⟨Lc48, hQ48, l48, y48, z48⟩, st48⟩ := Jvm.LawKit.callS X44 hx (y := (⟨"com/example/mullion/mullion/policy/WindowFamilyContainsPinLaw", "inRange", "(III)Z"⟩ : MethodName)) hown (mvT hZ (hw _ (List.mem_of_getElem? (i := 13) rfl))) (mvT hZ (hw _ (List.mem_of_getElem? (i := 14) rfl))) (mvT hZ (hw _ (List.mem_of_getElem? (i := 15) rfl))) (mvT hZ (hw _ (List.mem_of_getElem? (i := 16) rfl))) (by decide) (backOf (W := 1) (own_rm2 l Z a0 hw [] ((1000 : Int32)) ((1999 : Int32)) (ty) h0 n0 Z0) hZ (hw _ (List.mem_of_getElem? (i := 16) rfl)) (hw _ (List.mem_of_getElem? (i := 15) rfl)) (by decide) (by decide)) (g := (mkF m 103 #[.val (.int sel), .val (.int ty), .val (.int near), .val (.int ((sel &&& (2147483647 : Int32)) % (3 : Int32))), .val (.ref st_SUB_WINDOW), .val (.int (1000 : Int32)), .val (.int (1999 : Int32)), .val (.int ((near >>> ((1 : Int32) &&& 31)) % (3 : Int32))), .val (.int pr), .unset, .unset] [(.int ty), (.int (1999 : Int32)), (.int (1000 : Int32)), (.int (own_b (own_ct ty (1000 : Int32) (1999 : Int32))))])) rfl (by rw [hml]; rfl) (argsL := [(.int (1000 : Int32)), (.int (1999 : Int32)), (.int ty)]) (rest := [(.int (own_b (own_ct ty (1000 : Int32) (1999 : Int32))))]) (lenOf own_pd1 rfl) rfl (by show 2 * 0 + _ ≤ _; exact Nat.le_of_eq rfl) (hb hby at_103) (fun _ _ => ⟨rfl, eq42, (by decide : 0 + 0 ≤ _), (by decide : 0 + 0 ≤ _)⟩)
      dsimp only [Pt.U, Pt.locs, Pt.cells, Pt.slots] at X48 l48 y48 z48 st48 hQ48
      subst l48 y48 z48
      obtain ⟨rfl, rfl, eq46⟩ := hQ48
      try rw [List.append_nil] at X48
      have S49 : ∀ t, Steps p.tables e below (T48.setTop (mkF m 106 #[.val (.int sel), .val (.int ty), .val (.int near), .val (.int ((sel &&& (2147483647 : Int32)) % (3 : Int32))), .val (.ref st_SUB_WINDOW), .val (.int (1000 : Int32)), .val (.int (1999 : Int32)), .val (.int ((near >>> ((1 : Int32) &&& 31)) % (3 : Int32))), .val (.int pr), .unset, .unset] [(.int (own_b (own_ir (1000 : Int32) (1999 : Int32) ty))), (.int (own_b (own_ct ty (1000 : Int32) (1999 : Int32))))])) t → Steps p.tables e below (s₁.setTop (entryFrame m #[(.int sel), (.int ty), (.int near)] maxLocals)) t := fun t kt => S47 t (st48 _ kt)
      have hc106_50 : (own_b (own_ct ty (1000 : Int32) (1999 : Int32))) = (own_b (own_ir (1000 : Int32) (1999 : Int32) ty)) := own_plain _ _ _ (by decide)
      have S52 : ∀ t, Steps p.tables e below (T48.setTop (mkF m 120 #[.val (.int sel), .val (.int ty), .val (.int near), .val (.int ((sel &&& (2147483647 : Int32)) % (3 : Int32))), .val (.ref st_SUB_WINDOW), .val (.int (1000 : Int32)), .val (.int (1999 : Int32)), .val (.int ((near >>> ((1 : Int32) &&& 31)) % (3 : Int32))), .val (.int pr), .val (.int (1 : Int32)), .unset] [(.int pr), (.ref st_SUB_WINDOW)])) t → Steps p.tables e below (s₁.setTop (entryFrame m #[(.int sel), (.int ty), (.int near)] maxLocals)) t := fun t kt => by
        refine S49 t ?_
        show Steps p.tables e below (T48.setTop (mkF m 106 #[.val (.int sel), .val (.int ty), .val (.int near), .val (.int ((sel &&& (2147483647 : Int32)) % (3 : Int32))), .val (.ref st_SUB_WINDOW), .val (.int (1000 : Int32)), .val (.int (1999 : Int32)), .val (.int ((near >>> ((1 : Int32) &&& 31)) % (3 : Int32))), .val (.int pr), .unset, .unset] [(.int (own_b (own_ir (1000 : Int32) (1999 : Int32) ty))), (.int (own_b (own_ct ty (1000 : Int32) (1999 : Int32))))])) t
        refine XS.icmpNo X48.here hx rfl (hb hby at_106) rfl (teq hc106_50).2 ?_
        show Steps p.tables e below (T48.setTop (mkF m 109 #[.val (.int sel), .val (.int ty), .val (.int near), .val (.int ((sel &&& (2147483647 : Int32)) % (3 : Int32))), .val (.ref st_SUB_WINDOW), .val (.int (1000 : Int32)), .val (.int (1999 : Int32)), .val (.int ((near >>> ((1 : Int32) &&& 31)) % (3 : Int32))), .val (.int pr), .unset, .unset] [])) t
        refine XS.iconst X48.here hx rfl (hb hby at_109) ?_
        show Steps p.tables e below (T48.setTop (mkF m 110 #[.val (.int sel), .val (.int ty), .val (.int near), .val (.int ((sel &&& (2147483647 : Int32)) % (3 : Int32))), .val (.ref st_SUB_WINDOW), .val (.int (1000 : Int32)), .val (.int (1999 : Int32)), .val (.int ((near >>> ((1 : Int32) &&& 31)) % (3 : Int32))), .val (.int pr), .unset, .unset] [(.int (1 : Int32))])) t
        refine XS.goto X48.here hx rfl (pc0 := 110) (pc' := 114) rfl (hb hby at_110) (by decide) (by decide) ?_
        show Steps p.tables e below (T48.setTop (mkF m 114 #[.val (.int sel), .val (.int ty), .val (.int near), .val (.int ((sel &&& (2147483647 : Int32)) % (3 : Int32))), .val (.ref st_SUB_WINDOW), .val (.int (1000 : Int32)), .val (.int (1999 : Int32)), .val (.int ((near >>> ((1 : Int32) &&& 31)) % (3 : Int32))), .val (.int pr), .unset, .unset] [(.int (1 : Int32))])) t
        refine XS.istore X48.here hx rfl (hb hby at_114) rfl (l' := #[.val (.int sel), .val (.int ty), .val (.int near), .val (.int ((sel &&& (2147483647 : Int32)) % (3 : Int32))), .val (.ref st_SUB_WINDOW), .val (.int (1000 : Int32)), .val (.int (1999 : Int32)), .val (.int ((near >>> ((1 : Int32) &&& 31)) % (3 : Int32))), .val (.int pr), .val (.int (1 : Int32)), .unset]) rfl ?_
        show Steps p.tables e below (T48.setTop (mkF m 116 #[.val (.int sel), .val (.int ty), .val (.int near), .val (.int ((sel &&& (2147483647 : Int32)) % (3 : Int32))), .val (.ref st_SUB_WINDOW), .val (.int (1000 : Int32)), .val (.int (1999 : Int32)), .val (.int ((near >>> ((1 : Int32) &&& 31)) % (3 : Int32))), .val (.int pr), .val (.int (1 : Int32)), .unset] [])) t
        refine XS.aload X48.here hx rfl (hb hby at_116) rfl rfl ?_
        show Steps p.tables e below (T48.setTop (mkF m 118 #[.val (.int sel), .val (.int ty), .val (.int near), .val (.int ((sel &&& (2147483647 : Int32)) % (3 : Int32))), .val (.ref st_SUB_WINDOW), .val (.int (1000 : Int32)), .val (.int (1999 : Int32)), .val (.int ((near >>> ((1 : Int32) &&& 31)) % (3 : Int32))), .val (.int pr), .val (.int (1 : Int32)), .unset] [(.ref st_SUB_WINDOW)])) t
        refine XS.iload X48.here hx rfl (hb hby at_118) rfl ?_
        exact kt
      obtain ⟨cq53, kq53, q53a, q53b, q53c⟩ := isOf hZ eq46 E_SUB_WINDOW
      obtain ⟨_, _, ⟨T53, L53, k53, n53⟩, -, X53, ⟨Lc53, hQ53, l53, y53, z53⟩, st53⟩ := X48.virtualBack hx (y := (⟨"com/example/mullion/mullion/policy/WindowFamily", "contains", "(I)Z"⟩ : MethodName)) (z := (⟨"com/example/mullion/mullion/policy/WindowFamily", "contains", "(I)Z"⟩ : MethodName)) hown (mvT hZ (hw _ (List.mem_of_getElem? (i := 4) rfl))) (mvT hZ (hw _ (List.mem_of_getElem? (i := 5) rfl))) (notFace_of_selects (args := #[]) (mvT hZ (hw _ (List.mem_of_getElem? (i := 7) rfl)))) (mvT hZ (hw _ (List.mem_of_getElem? (i := 7) rfl))) (mvT hZ (hw _ (List.mem_of_getElem? (i := 6) rfl))) (by decide) (backOf (W := 0) (own_rm1 l Z a0 hw [] (st_SUB_WINDOW) (pr) ((1000 : Int32)) ((1999 : Int32)) h0 n0 Z0 A_SUB_WINDOW B_SUB_WINDOW) hZ (hw _ (List.mem_of_getElem? (i := 8) rfl)) (hw _ (List.mem_of_getElem? (i := 2) rfl)) (by decide) (by decide)) q53a q53c (g := (mkF m 120 #[.val (.int sel), .val (.int ty), .val (.int near), .val (.int ((sel &&& (2147483647 : Int32)) % (3 : Int32))), .val (.ref st_SUB_WINDOW), .val (.int (1000 : Int32)), .val (.int (1999 : Int32)), .val (.int ((near >>> ((1 : Int32) &&& 31)) % (3 : Int32))), .val (.int pr), .val (.int (1 : Int32)), .unset] [(.int pr), (.ref st_SUB_WINDOW)])) rfl (by rw [hml]; rfl) (Steps.refl _) (argsL := [(.int pr)]) (rest := []) (lenOf own_pd0 rfl) rfl (by show 2 * 0 + _ ≤ _; exact Nat.le_of_eq rfl) (hb hby at_120) (fun _ _ => ⟨rfl, eq46, (by decide : 0 + 0 ≤ _), (by decide : 0 + 0 ≤ _)⟩)
      dsimp only [Pt.U, Pt.locs, Pt.cells, Pt.slots] at X53 l53 y53 z53 st53 hQ53
      subst l53 y53 z53
      obtain ⟨rfl, rfl, eq51⟩ := hQ53
      try rw [List.append_nil] at X53
      have S54 : ∀ t, Steps p.tables e below (T53.setTop (mkF m 123 #[.val (.int sel), .val (.int ty), .val (.int near), .val (.int ((sel &&& (2147483647 : Int32)) % (3 : Int32))), .val (.ref st_SUB_WINDOW), .val (.int (1000 : Int32)), .val (.int (1999 : Int32)), .val (.int ((near >>> ((1 : Int32) &&& 31)) % (3 : Int32))), .val (.int pr), .val (.int (1 : Int32)), .unset] [(.int (own_b (own_ct pr (1000 : Int32) (1999 : Int32))))])) t → Steps p.tables e below (s₁.setTop (entryFrame m #[(.int sel), (.int ty), (.int near)] maxLocals)) t := fun t kt => S52 t (st53.trans kt)
      have S56 : ∀ t, Steps p.tables e below (T53.setTop (mkF m 129 #[.val (.int sel), .val (.int ty), .val (.int near), .val (.int ((sel &&& (2147483647 : Int32)) % (3 : Int32))), .val (.ref st_SUB_WINDOW), .val (.int (1000 : Int32)), .val (.int (1999 : Int32)), .val (.int ((near >>> ((1 : Int32) &&& 31)) % (3 : Int32))), .val (.int pr), .val (.int (1 : Int32)), .unset] [(.int pr), (.int (1999 : Int32)), (.int (1000 : Int32)), (.int (own_b (own_ct pr (1000 : Int32) (1999 : Int32))))])) t → Steps p.tables e below (s₁.setTop (entryFrame m #[(.int sel), (.int ty), (.int near)] maxLocals)) t := fun t kt => by
        refine S54 t ?_
        show Steps p.tables e below (T53.setTop (mkF m 123 #[.val (.int sel), .val (.int ty), .val (.int near), .val (.int ((sel &&& (2147483647 : Int32)) % (3 : Int32))), .val (.ref st_SUB_WINDOW), .val (.int (1000 : Int32)), .val (.int (1999 : Int32)), .val (.int ((near >>> ((1 : Int32) &&& 31)) % (3 : Int32))), .val (.int pr), .val (.int (1 : Int32)), .unset] [(.int (own_b (own_ct pr (1000 : Int32) (1999 : Int32))))])) t
        refine XS.iload X53.here hx rfl (hb hby at_123) rfl ?_
        show Steps p.tables e below (T53.setTop (mkF m 125 #[.val (.int sel), .val (.int ty), .val (.int near), .val (.int ((sel &&& (2147483647 : Int32)) % (3 : Int32))), .val (.ref st_SUB_WINDOW), .val (.int (1000 : Int32)), .val (.int (1999 : Int32)), .val (.int ((near >>> ((1 : Int32) &&& 31)) % (3 : Int32))), .val (.int pr), .val (.int (1 : Int32)), .unset] [(.int (1000 : Int32)), (.int (own_b (own_ct pr (1000 : Int32) (1999 : Int32))))])) t
        refine XS.iload X53.here hx rfl (hb hby at_125) rfl ?_
        show Steps p.tables e below (T53.setTop (mkF m 127 #[.val (.int sel), .val (.int ty), .val (.int near), .val (.int ((sel &&& (2147483647 : Int32)) % (3 : Int32))), .val (.ref st_SUB_WINDOW), .val (.int (1000 : Int32)), .val (.int (1999 : Int32)), .val (.int ((near >>> ((1 : Int32) &&& 31)) % (3 : Int32))), .val (.int pr), .val (.int (1 : Int32)), .unset] [(.int (1999 : Int32)), (.int (1000 : Int32)), (.int (own_b (own_ct pr (1000 : Int32) (1999 : Int32))))])) t
        refine XS.iload X53.here hx rfl (hb hby at_127) rfl ?_
        exact kt
      obtain ⟨_, _, ⟨T57, L57, k57, n57⟩, -, X57, ⟨Lc57, hQ57, l57, y57, z57⟩, st57⟩ := Jvm.LawKit.callS X53 hx (y := (⟨"com/example/mullion/mullion/policy/WindowFamilyContainsPinLaw", "inRange", "(III)Z"⟩ : MethodName)) hown (mvT hZ (hw _ (List.mem_of_getElem? (i := 13) rfl))) (mvT hZ (hw _ (List.mem_of_getElem? (i := 14) rfl))) (mvT hZ (hw _ (List.mem_of_getElem? (i := 15) rfl))) (mvT hZ (hw _ (List.mem_of_getElem? (i := 16) rfl))) (by decide) (backOf (W := 1) (own_rm2 l Z a0 hw [] ((1000 : Int32)) ((1999 : Int32)) (pr) h0 n0 Z0) hZ (hw _ (List.mem_of_getElem? (i := 16) rfl)) (hw _ (List.mem_of_getElem? (i := 15) rfl)) (by decide) (by decide)) (g := (mkF m 129 #[.val (.int sel), .val (.int ty), .val (.int near), .val (.int ((sel &&& (2147483647 : Int32)) % (3 : Int32))), .val (.ref st_SUB_WINDOW), .val (.int (1000 : Int32)), .val (.int (1999 : Int32)), .val (.int ((near >>> ((1 : Int32) &&& 31)) % (3 : Int32))), .val (.int pr), .val (.int (1 : Int32)), .unset] [(.int pr), (.int (1999 : Int32)), (.int (1000 : Int32)), (.int (own_b (own_ct pr (1000 : Int32) (1999 : Int32))))])) rfl (by rw [hml]; rfl) (argsL := [(.int (1000 : Int32)), (.int (1999 : Int32)), (.int pr)]) (rest := [(.int (own_b (own_ct pr (1000 : Int32) (1999 : Int32))))]) (lenOf own_pd1 rfl) rfl (by show 2 * 0 + _ ≤ _; exact Nat.le_of_eq rfl) (hb hby at_129) (fun _ _ => ⟨rfl, eq51, (by decide : 0 + 0 ≤ _), (by decide : 0 + 0 ≤ _)⟩)
      dsimp only [Pt.U, Pt.locs, Pt.cells, Pt.slots] at X57 l57 y57 z57 st57 hQ57
      subst l57 y57 z57
      obtain ⟨rfl, rfl, eq55⟩ := hQ57
      try rw [List.append_nil] at X57
      have S58 : ∀ t, Steps p.tables e below (T57.setTop (mkF m 132 #[.val (.int sel), .val (.int ty), .val (.int near), .val (.int ((sel &&& (2147483647 : Int32)) % (3 : Int32))), .val (.ref st_SUB_WINDOW), .val (.int (1000 : Int32)), .val (.int (1999 : Int32)), .val (.int ((near >>> ((1 : Int32) &&& 31)) % (3 : Int32))), .val (.int pr), .val (.int (1 : Int32)), .unset] [(.int (own_b (own_ir (1000 : Int32) (1999 : Int32) pr))), (.int (own_b (own_ct pr (1000 : Int32) (1999 : Int32))))])) t → Steps p.tables e below (s₁.setTop (entryFrame m #[(.int sel), (.int ty), (.int near)] maxLocals)) t := fun t kt => S56 t (st57 _ kt)
      have hc132_59 : (own_b (own_ct pr (1000 : Int32) (1999 : Int32))) = (own_b (own_ir (1000 : Int32) (1999 : Int32) pr)) := own_plain _ _ _ (by decide)
      have S60 : ∀ t, Steps p.tables e below (T57.setTop (mkF m 144 #[.val (.int sel), .val (.int ty), .val (.int near), .val (.int ((sel &&& (2147483647 : Int32)) % (3 : Int32))), .val (.ref st_SUB_WINDOW), .val (.int (1000 : Int32)), .val (.int (1999 : Int32)), .val (.int ((near >>> ((1 : Int32) &&& 31)) % (3 : Int32))), .val (.int pr), .val (.int (1 : Int32)), .val (.int (1 : Int32))] [(.int (1 : Int32))])) t → Steps p.tables e below (s₁.setTop (entryFrame m #[(.int sel), (.int ty), (.int near)] maxLocals)) t := fun t kt => by
        refine S58 t ?_
        show Steps p.tables e below (T57.setTop (mkF m 132 #[.val (.int sel), .val (.int ty), .val (.int near), .val (.int ((sel &&& (2147483647 : Int32)) % (3 : Int32))), .val (.ref st_SUB_WINDOW), .val (.int (1000 : Int32)), .val (.int (1999 : Int32)), .val (.int ((near >>> ((1 : Int32) &&& 31)) % (3 : Int32))), .val (.int pr), .val (.int (1 : Int32)), .unset] [(.int (own_b (own_ir (1000 : Int32) (1999 : Int32) pr))), (.int (own_b (own_ct pr (1000 : Int32) (1999 : Int32))))])) t
        refine XS.icmpNo X57.here hx rfl (hb hby at_132) rfl (teq hc132_59).2 ?_
        show Steps p.tables e below (T57.setTop (mkF m 135 #[.val (.int sel), .val (.int ty), .val (.int near), .val (.int ((sel &&& (2147483647 : Int32)) % (3 : Int32))), .val (.ref st_SUB_WINDOW), .val (.int (1000 : Int32)), .val (.int (1999 : Int32)), .val (.int ((near >>> ((1 : Int32) &&& 31)) % (3 : Int32))), .val (.int pr), .val (.int (1 : Int32)), .unset] [])) t
        refine XS.iconst X57.here hx rfl (hb hby at_135) ?_
        show Steps p.tables e below (T57.setTop (mkF m 136 #[.val (.int sel), .val (.int ty), .val (.int near), .val (.int ((sel &&& (2147483647 : Int32)) % (3 : Int32))), .val (.ref st_SUB_WINDOW), .val (.int (1000 : Int32)), .val (.int (1999 : Int32)), .val (.int ((near >>> ((1 : Int32) &&& 31)) % (3 : Int32))), .val (.int pr), .val (.int (1 : Int32)), .unset] [(.int (1 : Int32))])) t
        refine XS.goto X57.here hx rfl (pc0 := 136) (pc' := 140) rfl (hb hby at_136) (by decide) (by decide) ?_
        show Steps p.tables e below (T57.setTop (mkF m 140 #[.val (.int sel), .val (.int ty), .val (.int near), .val (.int ((sel &&& (2147483647 : Int32)) % (3 : Int32))), .val (.ref st_SUB_WINDOW), .val (.int (1000 : Int32)), .val (.int (1999 : Int32)), .val (.int ((near >>> ((1 : Int32) &&& 31)) % (3 : Int32))), .val (.int pr), .val (.int (1 : Int32)), .unset] [(.int (1 : Int32))])) t
        refine XS.istore X57.here hx rfl (hb hby at_140) rfl (l' := #[.val (.int sel), .val (.int ty), .val (.int near), .val (.int ((sel &&& (2147483647 : Int32)) % (3 : Int32))), .val (.ref st_SUB_WINDOW), .val (.int (1000 : Int32)), .val (.int (1999 : Int32)), .val (.int ((near >>> ((1 : Int32) &&& 31)) % (3 : Int32))), .val (.int pr), .val (.int (1 : Int32)), .val (.int (1 : Int32))]) rfl ?_
        show Steps p.tables e below (T57.setTop (mkF m 142 #[.val (.int sel), .val (.int ty), .val (.int near), .val (.int ((sel &&& (2147483647 : Int32)) % (3 : Int32))), .val (.ref st_SUB_WINDOW), .val (.int (1000 : Int32)), .val (.int (1999 : Int32)), .val (.int ((near >>> ((1 : Int32) &&& 31)) % (3 : Int32))), .val (.int pr), .val (.int (1 : Int32)), .val (.int (1 : Int32))] [])) t
        refine XS.iload X57.here hx rfl (hb hby at_142) rfl ?_
        exact kt
      have hc144_61 : ¬ ((1 : Int32) = (0 : Int32)) := by decide
      have S62 : ∀ t, Steps p.tables e below (T57.setTop (mkF m 149 #[.val (.int sel), .val (.int ty), .val (.int near), .val (.int ((sel &&& (2147483647 : Int32)) % (3 : Int32))), .val (.ref st_SUB_WINDOW), .val (.int (1000 : Int32)), .val (.int (1999 : Int32)), .val (.int ((near >>> ((1 : Int32) &&& 31)) % (3 : Int32))), .val (.int pr), .val (.int (1 : Int32)), .val (.int (1 : Int32))] [(.int (1 : Int32))])) t → Steps p.tables e below (s₁.setTop (entryFrame m #[(.int sel), (.int ty), (.int near)] maxLocals)) t := fun t kt => by
        refine S60 t ?_
        show Steps p.tables e below (T57.setTop (mkF m 144 #[.val (.int sel), .val (.int ty), .val (.int near), .val (.int ((sel &&& (2147483647 : Int32)) % (3 : Int32))), .val (.ref st_SUB_WINDOW), .val (.int (1000 : Int32)), .val (.int (1999 : Int32)), .val (.int ((near >>> ((1 : Int32) &&& 31)) % (3 : Int32))), .val (.int pr), .val (.int (1 : Int32)), .val (.int (1 : Int32))] [(.int (1 : Int32))])) t
        refine XS.ifNo X57.here hx rfl (hb hby at_144) rfl ((if0 _ _).trans (feq hc144_61).1) ?_
        show Steps p.tables e below (T57.setTop (mkF m 147 #[.val (.int sel), .val (.int ty), .val (.int near), .val (.int ((sel &&& (2147483647 : Int32)) % (3 : Int32))), .val (.ref st_SUB_WINDOW), .val (.int (1000 : Int32)), .val (.int (1999 : Int32)), .val (.int ((near >>> ((1 : Int32) &&& 31)) % (3 : Int32))), .val (.int pr), .val (.int (1 : Int32)), .val (.int (1 : Int32))] [])) t
        refine XS.iload X57.here hx rfl (hb hby at_147) rfl ?_
        exact kt
      have hc149_63 : ¬ ((1 : Int32) = (0 : Int32)) := by decide
      have S64 : ∀ t, Steps p.tables e below (T57.setTop (mkF m 157 #[.val (.int sel), .val (.int ty), .val (.int near), .val (.int ((sel &&& (2147483647 : Int32)) % (3 : Int32))), .val (.ref st_SUB_WINDOW), .val (.int (1000 : Int32)), .val (.int (1999 : Int32)), .val (.int ((near >>> ((1 : Int32) &&& 31)) % (3 : Int32))), .val (.int pr), .val (.int (1 : Int32)), .val (.int (1 : Int32))] [(.int (1 : Int32))])) t → Steps p.tables e below (s₁.setTop (entryFrame m #[(.int sel), (.int ty), (.int near)] maxLocals)) t := fun t kt => by
        refine S62 t ?_
        show Steps p.tables e below (T57.setTop (mkF m 149 #[.val (.int sel), .val (.int ty), .val (.int near), .val (.int ((sel &&& (2147483647 : Int32)) % (3 : Int32))), .val (.ref st_SUB_WINDOW), .val (.int (1000 : Int32)), .val (.int (1999 : Int32)), .val (.int ((near >>> ((1 : Int32) &&& 31)) % (3 : Int32))), .val (.int pr), .val (.int (1 : Int32)), .val (.int (1 : Int32))] [(.int (1 : Int32))])) t
        refine XS.ifNo X57.here hx rfl (hb hby at_149) rfl ((if0 _ _).trans (feq hc149_63).1) ?_
        show Steps p.tables e below (T57.setTop (mkF m 152 #[.val (.int sel), .val (.int ty), .val (.int near), .val (.int ((sel &&& (2147483647 : Int32)) % (3 : Int32))), .val (.ref st_SUB_WINDOW), .val (.int (1000 : Int32)), .val (.int (1999 : Int32)), .val (.int ((near >>> ((1 : Int32) &&& 31)) % (3 : Int32))), .val (.int pr), .val (.int (1 : Int32)), .val (.int (1 : Int32))] [])) t
        refine XS.iconst X57.here hx rfl (hb hby at_152) ?_
        show Steps p.tables e below (T57.setTop (mkF m 153 #[.val (.int sel), .val (.int ty), .val (.int near), .val (.int ((sel &&& (2147483647 : Int32)) % (3 : Int32))), .val (.ref st_SUB_WINDOW), .val (.int (1000 : Int32)), .val (.int (1999 : Int32)), .val (.int ((near >>> ((1 : Int32) &&& 31)) % (3 : Int32))), .val (.int pr), .val (.int (1 : Int32)), .val (.int (1 : Int32))] [(.int (1 : Int32))])) t
        refine XS.goto X57.here hx rfl (pc0 := 153) (pc' := 157) rfl (hb hby at_153) (by decide) (by decide) ?_
        exact kt
      obtain ⟨fs, hr, hrun, hended, hW, hsame⟩ := X57.leave (v := some (.int (nar .boolean (1 : Int32)))) (fun h => by rw [Bd.returns] at h; cases h)
      refine ⟨_, _, S64 _ ?_, hrun, hended, _, _, rfl, ?_, ⟨_, rfl⟩, hW, hsame.mono (by decide) (by decide)⟩
      · show Steps p.tables e below (T57.setTop (mkF m 157 #[.val (.int sel), .val (.int ty), .val (.int near), .val (.int ((sel &&& (2147483647 : Int32)) % (3 : Int32))), .val (.ref st_SUB_WINDOW), .val (.int (1000 : Int32)), .val (.int (1999 : Int32)), .val (.int ((near >>> ((1 : Int32) &&& 31)) % (3 : Int32))), .val (.int pr), .val (.int (1 : Int32)), .val (.int (1 : Int32))] [(.int (1 : Int32))])) _
        exact retN X57 hx (t := .boolean) Bd.returns (by simp) (hb hby at_157) hr
      · show own_Q0 Z sel ty near st_APPLICATION st_SUB_WINDOW st_SYSTEM h0 n0 _ T57.heap _
        rw [eq55]
        exact ⟨rfl, N0⟩
    · skip
      have S65 : ∀ t, Steps p.tables e below (s₁.setTop (mkF m 49 #[.val (.int sel), .val (.int ty), .val (.int near), .val (.int ((sel &&& (2147483647 : Int32)) % (3 : Int32))), .unset, .unset, .unset, .unset, .unset, .unset, .unset] [])) t → Steps p.tables e below (s₁.setTop (entryFrame m #[(.int sel), (.int ty), (.int near)] maxLocals)) t := fun t kt => by
        refine S33 t ?_
        show Steps p.tables e below (s₁.setTop (mkF m 28 #[.val (.int sel), .val (.int ty), .val (.int near), .val (.int ((sel &&& (2147483647 : Int32)) % (3 : Int32))), .unset, .unset, .unset, .unset, .unset, .unset, .unset] [(.int (1 : Int32)), (.int ((sel &&& (2147483647 : Int32)) % (3 : Int32)))])) t
        refine XS.icmpYes X0.here hx rfl (pc0 := 28) (pc' := 49) rfl (hb hby at_28) rfl (feq hc28).2 (by decide) (by decide) ?_
        exact kt
      obtain ⟨T66, X66, e66, st66⟩ := getS2 X0 hx hZ hown (host := "") (Or.inl (hw _ (List.mem_of_getElem? (i := 19) rfl))) Via.refl e0 S_SYSTEM (g := (mkF m 49 #[.val (.int sel), .val (.int ty), .val (.int near), .val (.int ((sel &&& (2147483647 : Int32)) % (3 : Int32))), .unset, .unset, .unset, .unset, .unset, .unset, .unset] [])) rfl (hb hby at_49)
      have S67 : ∀ t, Steps p.tables e below (T66.setTop (mkF m 52 #[.val (.int sel), .val (.int ty), .val (.int near), .val (.int ((sel &&& (2147483647 : Int32)) % (3 : Int32))), .unset, .unset, .unset, .unset, .unset, .unset, .unset] [(.ref st_SYSTEM)])) t → Steps p.tables e below (s₁.setTop (entryFrame m #[(.int sel), (.int ty), (.int near)] maxLocals)) t := fun t kt => S65 t (st66 _ kt)
      have S68 : ∀ t, Steps p.tables e below (T66.setTop (mkF m 71 #[.val (.int sel), .val (.int ty), .val (.int near), .val (.int ((sel &&& (2147483647 : Int32)) % (3 : Int32))), .val (.ref st_SYSTEM), .val (.int (2000 : Int32)), .val (.int (2999 : Int32)), .val (.int ((near >>> ((1 : Int32) &&& 31)) % (3 : Int32))), .unset, .unset, .unset] [])) t → Steps p.tables e below (s₁.setTop (entryFrame m #[(.int sel), (.int ty), (.int near)] maxLocals)) t := fun t kt => by
        refine S67 t ?_
        show Steps p.tables e below (T66.setTop (mkF m 52 #[.val (.int sel), .val (.int ty), .val (.int near), .val (.int ((sel &&& (2147483647 : Int32)) % (3 : Int32))), .unset, .unset, .unset, .unset, .unset, .unset, .unset] [(.ref st_SYSTEM)])) t
        refine XS.astore X66.here hx rfl (hb hby at_52) rfl rfl (l' := #[.val (.int sel), .val (.int ty), .val (.int near), .val (.int ((sel &&& (2147483647 : Int32)) % (3 : Int32))), .val (.ref st_SYSTEM), .unset, .unset, .unset, .unset, .unset, .unset]) rfl ?_
        show Steps p.tables e below (T66.setTop (mkF m 54 #[.val (.int sel), .val (.int ty), .val (.int near), .val (.int ((sel &&& (2147483647 : Int32)) % (3 : Int32))), .val (.ref st_SYSTEM), .unset, .unset, .unset, .unset, .unset, .unset] [])) t
        refine XS.sipush X66.here hx rfl (hb hby at_54) ?_
        show Steps p.tables e below (T66.setTop (mkF m 57 #[.val (.int sel), .val (.int ty), .val (.int near), .val (.int ((sel &&& (2147483647 : Int32)) % (3 : Int32))), .val (.ref st_SYSTEM), .unset, .unset, .unset, .unset, .unset, .unset] [(.int (2000 : Int32))])) t
        refine XS.istore X66.here hx rfl (hb hby at_57) rfl (l' := #[.val (.int sel), .val (.int ty), .val (.int near), .val (.int ((sel &&& (2147483647 : Int32)) % (3 : Int32))), .val (.ref st_SYSTEM), .val (.int (2000 : Int32)), .unset, .unset, .unset, .unset, .unset]) rfl ?_
        show Steps p.tables e below (T66.setTop (mkF m 59 #[.val (.int sel), .val (.int ty), .val (.int near), .val (.int ((sel &&& (2147483647 : Int32)) % (3 : Int32))), .val (.ref st_SYSTEM), .val (.int (2000 : Int32)), .unset, .unset, .unset, .unset, .unset] [])) t
        refine XS.sipush X66.here hx rfl (hb hby at_59) ?_
        show Steps p.tables e below (T66.setTop (mkF m 62 #[.val (.int sel), .val (.int ty), .val (.int near), .val (.int ((sel &&& (2147483647 : Int32)) % (3 : Int32))), .val (.ref st_SYSTEM), .val (.int (2000 : Int32)), .unset, .unset, .unset, .unset, .unset] [(.int (2999 : Int32))])) t
        refine XS.istore X66.here hx rfl (hb hby at_62) rfl (l' := #[.val (.int sel), .val (.int ty), .val (.int near), .val (.int ((sel &&& (2147483647 : Int32)) % (3 : Int32))), .val (.ref st_SYSTEM), .val (.int (2000 : Int32)), .val (.int (2999 : Int32)), .unset, .unset, .unset, .unset]) rfl ?_
        show Steps p.tables e below (T66.setTop (mkF m 64 #[.val (.int sel), .val (.int ty), .val (.int near), .val (.int ((sel &&& (2147483647 : Int32)) % (3 : Int32))), .val (.ref st_SYSTEM), .val (.int (2000 : Int32)), .val (.int (2999 : Int32)), .unset, .unset, .unset, .unset] [])) t
        refine XS.iloadN X66.here hx rfl (hb hby at_64) rfl ?_
        show Steps p.tables e below (T66.setTop (mkF m 65 #[.val (.int sel), .val (.int ty), .val (.int near), .val (.int ((sel &&& (2147483647 : Int32)) % (3 : Int32))), .val (.ref st_SYSTEM), .val (.int (2000 : Int32)), .val (.int (2999 : Int32)), .unset, .unset, .unset, .unset] [(.int near)])) t
        refine XS.iconst X66.here hx rfl (hb hby at_65) ?_
        show Steps p.tables e below (T66.setTop (mkF m 66 #[.val (.int sel), .val (.int ty), .val (.int near), .val (.int ((sel &&& (2147483647 : Int32)) % (3 : Int32))), .val (.ref st_SYSTEM), .val (.int (2000 : Int32)), .val (.int (2999 : Int32)), .unset, .unset, .unset, .unset] [(.int (1 : Int32)), (.int near)])) t
        refine XS.ishr X66.here hx rfl (hb hby at_66) rfl ?_
        show Steps p.tables e below (T66.setTop (mkF m 67 #[.val (.int sel), .val (.int ty), .val (.int near), .val (.int ((sel &&& (2147483647 : Int32)) % (3 : Int32))), .val (.ref st_SYSTEM), .val (.int (2000 : Int32)), .val (.int (2999 : Int32)), .unset, .unset, .unset, .unset] [(.int (near >>> ((1 : Int32) &&& 31)))])) t
        refine XS.iconst X66.here hx rfl (hb hby at_67) ?_
        show Steps p.tables e below (T66.setTop (mkF m 68 #[.val (.int sel), .val (.int ty), .val (.int near), .val (.int ((sel &&& (2147483647 : Int32)) % (3 : Int32))), .val (.ref st_SYSTEM), .val (.int (2000 : Int32)), .val (.int (2999 : Int32)), .unset, .unset, .unset, .unset] [(.int (3 : Int32)), (.int (near >>> ((1 : Int32) &&& 31)))])) t
        refine iremM X66 hx rfl (hb hby at_68) rfl (by decide) ?_
        show Steps p.tables e below (T66.setTop (mkF m 69 #[.val (.int sel), .val (.int ty), .val (.int near), .val (.int ((sel &&& (2147483647 : Int32)) % (3 : Int32))), .val (.ref st_SYSTEM), .val (.int (2000 : Int32)), .val (.int (2999 : Int32)), .unset, .unset, .unset, .unset] [(.int ((near >>> ((1 : Int32) &&& 31)) % (3 : Int32)))])) t
        refine XS.istore X66.here hx rfl (hb hby at_69) rfl (l' := #[.val (.int sel), .val (.int ty), .val (.int near), .val (.int ((sel &&& (2147483647 : Int32)) % (3 : Int32))), .val (.ref st_SYSTEM), .val (.int (2000 : Int32)), .val (.int (2999 : Int32)), .val (.int ((near >>> ((1 : Int32) &&& 31)) % (3 : Int32))), .unset, .unset, .unset]) rfl ?_
        exact kt
      obtain ⟨T69, pr, X69, e69, S69⟩ : ∃ (T' : State) (pr : Int32), own_like X66 T' ∧ T'.heap = h0 ∧ (∀ t, Steps p.tables e below (T'.setTop (mkF m 90 #[.val (.int sel), .val (.int ty), .val (.int near), .val (.int ((sel &&& (2147483647 : Int32)) % (3 : Int32))), .val (.ref st_SYSTEM), .val (.int (2000 : Int32)), .val (.int (2999 : Int32)), .val (.int ((near >>> ((1 : Int32) &&& 31)) % (3 : Int32))), .unset, .unset, .unset] [(.int pr)])) t → Steps p.tables e below (s₁.setTop (entryFrame m #[(.int sel), (.int ty), (.int near)] maxLocals)) t) := by
        have S70 : ∀ t, Steps p.tables e below (T66.setTop (mkF m 74 #[.val (.int sel), .val (.int ty), .val (.int near), .val (.int ((sel &&& (2147483647 : Int32)) % (3 : Int32))), .val (.ref st_SYSTEM), .val (.int (2000 : Int32)), .val (.int (2999 : Int32)), .val (.int ((near >>> ((1 : Int32) &&& 31)) % (3 : Int32))), .unset, .unset, .unset] [(.int (near &&& (1 : Int32)))])) t → Steps p.tables e below (s₁.setTop (entryFrame m #[(.int sel), (.int ty), (.int near)] maxLocals)) t := fun t kt => by
          refine S68 t ?_
          show Steps p.tables e below (T66.setTop (mkF m 71 #[.val (.int sel), .val (.int ty), .val (.int near), .val (.int ((sel &&& (2147483647 : Int32)) % (3 : Int32))), .val (.ref st_SYSTEM), .val (.int (2000 : Int32)), .val (.int (2999 : Int32)), .val (.int ((near >>> ((1 : Int32) &&& 31)) % (3 : Int32))), .unset, .unset, .unset] [])) t
          refine XS.iloadN X66.here hx rfl (hb hby at_71) rfl ?_
          show Steps p.tables e below (T66.setTop (mkF m 72 #[.val (.int sel), .val (.int ty), .val (.int near), .val (.int ((sel &&& (2147483647 : Int32)) % (3 : Int32))), .val (.ref st_SYSTEM), .val (.int (2000 : Int32)), .val (.int (2999 : Int32)), .val (.int ((near >>> ((1 : Int32) &&& 31)) % (3 : Int32))), .unset, .unset, .unset] [(.int near)])) t
          refine XS.iconst X66.here hx rfl (hb hby at_72) ?_
          show Steps p.tables e below (T66.setTop (mkF m 73 #[.val (.int sel), .val (.int ty), .val (.int near), .val (.int ((sel &&& (2147483647 : Int32)) % (3 : Int32))), .val (.ref st_SYSTEM), .val (.int (2000 : Int32)), .val (.int (2999 : Int32)), .val (.int ((near >>> ((1 : Int32) &&& 31)) % (3 : Int32))), .unset, .unset, .unset] [(.int (1 : Int32)), (.int near)])) t
          refine XS.iand X66.here hx rfl (hb hby at_73) rfl ?_
          exact kt
        by_cases hc74 : (near &&& (1 : Int32)) = (0 : Int32)
        · skip
          have S71 : ∀ t, Steps p.tables e below (T66.setTop (mkF m 90 #[.val (.int sel), .val (.int ty), .val (.int near), .val (.int ((sel &&& (2147483647 : Int32)) % (3 : Int32))), .val (.ref st_SYSTEM), .val (.int (2000 : Int32)), .val (.int (2999 : Int32)), .val (.int ((near >>> ((1 : Int32) &&& 31)) % (3 : Int32))), .unset, .unset, .unset] [(.int ((2000 : Int32) + ((near >>> ((1 : Int32) &&& 31)) % (3 : Int32))))])) t → Steps p.tables e below (s₁.setTop (entryFrame m #[(.int sel), (.int ty), (.int near)] maxLocals)) t := fun t kt => by
            refine S70 t ?_
            show Steps p.tables e below (T66.setTop (mkF m 74 #[.val (.int sel), .val (.int ty), .val (.int near), .val (.int ((sel &&& (2147483647 : Int32)) % (3 : Int32))), .val (.ref st_SYSTEM), .val (.int (2000 : Int32)), .val (.int (2999 : Int32)), .val (.int ((near >>> ((1 : Int32) &&& 31)) % (3 : Int32))), .unset, .unset, .unset] [(.int (near &&& (1 : Int32)))])) t
            refine XS.ifNo X66.here hx rfl (hb hby at_74) rfl ((if0 _ _).trans (teq hc74).2) ?_
            show Steps p.tables e below (T66.setTop (mkF m 77 #[.val (.int sel), .val (.int ty), .val (.int near), .val (.int ((sel &&& (2147483647 : Int32)) % (3 : Int32))), .val (.ref st_SYSTEM), .val (.int (2000 : Int32)), .val (.int (2999 : Int32)), .val (.int ((near >>> ((1 : Int32) &&& 31)) % (3 : Int32))), .unset, .unset, .unset] [])) t
            refine XS.iload X66.here hx rfl (hb hby at_77) rfl ?_
            show Steps p.tables e below (T66.setTop (mkF m 79 #[.val (.int sel), .val (.int ty), .val (.int near), .val (.int ((sel &&& (2147483647 : Int32)) % (3 : Int32))), .val (.ref st_SYSTEM), .val (.int (2000 : Int32)), .val (.int (2999 : Int32)), .val (.int ((near >>> ((1 : Int32) &&& 31)) % (3 : Int32))), .unset, .unset, .unset] [(.int (2000 : Int32))])) t
            refine XS.iload X66.here hx rfl (hb hby at_79) rfl ?_
            show Steps p.tables e below (T66.setTop (mkF m 81 #[.val (.int sel), .val (.int ty), .val (.int near), .val (.int ((sel &&& (2147483647 : Int32)) % (3 : Int32))), .val (.ref st_SYSTEM), .val (.int (2000 : Int32)), .val (.int (2999 : Int32)), .val (.int ((near >>> ((1 : Int32) &&& 31)) % (3 : Int32))), .unset, .unset, .unset] [(.int ((near >>> ((1 : Int32) &&& 31)) % (3 : Int32))), (.int (2000 : Int32))])) t
            refine XS.iadd X66.here hx rfl (hb hby at_81) rfl ?_
            show Steps p.tables e below (T66.setTop (mkF m 82 #[.val (.int sel), .val (.int ty), .val (.int near), .val (.int ((sel &&& (2147483647 : Int32)) % (3 : Int32))), .val (.ref st_SYSTEM), .val (.int (2000 : Int32)), .val (.int (2999 : Int32)), .val (.int ((near >>> ((1 : Int32) &&& 31)) % (3 : Int32))), .unset, .unset, .unset] [(.int ((2000 : Int32) + ((near >>> ((1 : Int32) &&& 31)) % (3 : Int32))))])) t
            refine XS.goto X66.here hx rfl (pc0 := 82) (pc' := 90) rfl (hb hby at_82) (by decide) (by decide) ?_
            exact kt
          exact ⟨T66, (((2000 : Int32) + ((near >>> ((1 : Int32) &&& 31)) % (3 : Int32)))), X66, e66, S71⟩
        · skip
          have S72 : ∀ t, Steps p.tables e below (T66.setTop (mkF m 90 #[.val (.int sel), .val (.int ty), .val (.int near), .val (.int ((sel &&& (2147483647 : Int32)) % (3 : Int32))), .val (.ref st_SYSTEM), .val (.int (2000 : Int32)), .val (.int (2999 : Int32)), .val (.int ((near >>> ((1 : Int32) &&& 31)) % (3 : Int32))), .unset, .unset, .unset] [(.int ((2999 : Int32) + ((near >>> ((1 : Int32) &&& 31)) % (3 : Int32))))])) t → Steps p.tables e below (s₁.setTop (entryFrame m #[(.int sel), (.int ty), (.int near)] maxLocals)) t := fun t kt => by
            refine S70 t ?_
            show Steps p.tables e below (T66.setTop (mkF m 74 #[.val (.int sel), .val (.int ty), .val (.int near), .val (.int ((sel &&& (2147483647 : Int32)) % (3 : Int32))), .val (.ref st_SYSTEM), .val (.int (2000 : Int32)), .val (.int (2999 : Int32)), .val (.int ((near >>> ((1 : Int32) &&& 31)) % (3 : Int32))), .unset, .unset, .unset] [(.int (near &&& (1 : Int32)))])) t
            refine XS.ifYes X66.here hx rfl (pc0 := 74) (pc' := 85) rfl (hb hby at_74) rfl ((if0 _ _).trans (feq hc74).2) (by decide) (by decide) ?_
            show Steps p.tables e below (T66.setTop (mkF m 85 #[.val (.int sel), .val (.int ty), .val (.int near), .val (.int ((sel &&& (2147483647 : Int32)) % (3 : Int32))), .val (.ref st_SYSTEM), .val (.int (2000 : Int32)), .val (.int (2999 : Int32)), .val (.int ((near >>> ((1 : Int32) &&& 31)) % (3 : Int32))), .unset, .unset, .unset] [])) t
            refine XS.iload X66.here hx rfl (hb hby at_85) rfl ?_
            show Steps p.tables e below (T66.setTop (mkF m 87 #[.val (.int sel), .val (.int ty), .val (.int near), .val (.int ((sel &&& (2147483647 : Int32)) % (3 : Int32))), .val (.ref st_SYSTEM), .val (.int (2000 : Int32)), .val (.int (2999 : Int32)), .val (.int ((near >>> ((1 : Int32) &&& 31)) % (3 : Int32))), .unset, .unset, .unset] [(.int (2999 : Int32))])) t
            refine XS.iload X66.here hx rfl (hb hby at_87) rfl ?_
            show Steps p.tables e below (T66.setTop (mkF m 89 #[.val (.int sel), .val (.int ty), .val (.int near), .val (.int ((sel &&& (2147483647 : Int32)) % (3 : Int32))), .val (.ref st_SYSTEM), .val (.int (2000 : Int32)), .val (.int (2999 : Int32)), .val (.int ((near >>> ((1 : Int32) &&& 31)) % (3 : Int32))), .unset, .unset, .unset] [(.int ((near >>> ((1 : Int32) &&& 31)) % (3 : Int32))), (.int (2999 : Int32))])) t
            refine XS.iadd X66.here hx rfl (hb hby at_89) rfl ?_
            exact kt
          exact ⟨T66, (((2999 : Int32) + ((near >>> ((1 : Int32) &&& 31)) % (3 : Int32)))), X66, e66, S72⟩
      have S74 : ∀ t, Steps p.tables e below (T69.setTop (mkF m 95 #[.val (.int sel), .val (.int ty), .val (.int near), .val (.int ((sel &&& (2147483647 : Int32)) % (3 : Int32))), .val (.ref st_SYSTEM), .val (.int (2000 : Int32)), .val (.int (2999 : Int32)), .val (.int ((near >>> ((1 : Int32) &&& 31)) % (3 : Int32))), .val (.int pr), .unset, .unset] [(.int ty), (.ref st_SYSTEM)])) t → Steps p.tables e below (s₁.setTop (entryFrame m #[(.int sel), (.int ty), (.int near)] maxLocals)) t := fun t kt => by
        refine S69 t ?_
        show Steps p.tables e below (T69.setTop (mkF m 90 #[.val (.int sel), .val (.int ty), .val (.int near), .val (.int ((sel &&& (2147483647 : Int32)) % (3 : Int32))), .val (.ref st_SYSTEM), .val (.int (2000 : Int32)), .val (.int (2999 : Int32)), .val (.int ((near >>> ((1 : Int32) &&& 31)) % (3 : Int32))), .unset, .unset, .unset] [(.int pr)])) t
        refine XS.istore X69.here hx rfl (hb hby at_90) rfl (l' := #[.val (.int sel), .val (.int ty), .val (.int near), .val (.int ((sel &&& (2147483647 : Int32)) % (3 : Int32))), .val (.ref st_SYSTEM), .val (.int (2000 : Int32)), .val (.int (2999 : Int32)), .val (.int ((near >>> ((1 : Int32) &&& 31)) % (3 : Int32))), .val (.int pr), .unset, .unset]) rfl ?_
        show Steps p.tables e below (T69.setTop (mkF m 92 #[.val (.int sel), .val (.int ty), .val (.int near), .val (.int ((sel &&& (2147483647 : Int32)) % (3 : Int32))), .val (.ref st_SYSTEM), .val (.int (2000 : Int32)), .val (.int (2999 : Int32)), .val (.int ((near >>> ((1 : Int32) &&& 31)) % (3 : Int32))), .val (.int pr), .unset, .unset] [])) t
        refine XS.aload X69.here hx rfl (hb hby at_92) rfl rfl ?_
        show Steps p.tables e below (T69.setTop (mkF m 94 #[.val (.int sel), .val (.int ty), .val (.int near), .val (.int ((sel &&& (2147483647 : Int32)) % (3 : Int32))), .val (.ref st_SYSTEM), .val (.int (2000 : Int32)), .val (.int (2999 : Int32)), .val (.int ((near >>> ((1 : Int32) &&& 31)) % (3 : Int32))), .val (.int pr), .unset, .unset] [(.ref st_SYSTEM)])) t
        refine XS.iloadN X69.here hx rfl (hb hby at_94) rfl ?_
        exact kt
      obtain ⟨cq75, kq75, q75a, q75b, q75c⟩ := isOf hZ e69 E_SYSTEM
      obtain ⟨_, _, ⟨T75, L75, k75, n75⟩, -, X75, ⟨Lc75, hQ75, l75, y75, z75⟩, st75⟩ := X69.virtualBack hx (y := (⟨"com/example/mullion/mullion/policy/WindowFamily", "contains", "(I)Z"⟩ : MethodName)) (z := (⟨"com/example/mullion/mullion/policy/WindowFamily", "contains", "(I)Z"⟩ : MethodName)) hown (mvT hZ (hw _ (List.mem_of_getElem? (i := 4) rfl))) (mvT hZ (hw _ (List.mem_of_getElem? (i := 5) rfl))) (notFace_of_selects (args := #[]) (mvT hZ (hw _ (List.mem_of_getElem? (i := 7) rfl)))) (mvT hZ (hw _ (List.mem_of_getElem? (i := 7) rfl))) (mvT hZ (hw _ (List.mem_of_getElem? (i := 6) rfl))) (by decide) (backOf (W := 0) (own_rm1 l Z a0 hw [] (st_SYSTEM) (ty) ((2000 : Int32)) ((2999 : Int32)) h0 n0 Z0 A_SYSTEM B_SYSTEM) hZ (hw _ (List.mem_of_getElem? (i := 8) rfl)) (hw _ (List.mem_of_getElem? (i := 2) rfl)) (by decide) (by decide)) q75a q75c (g := (mkF m 95 #[.val (.int sel), .val (.int ty), .val (.int near), .val (.int ((sel &&& (2147483647 : Int32)) % (3 : Int32))), .val (.ref st_SYSTEM), .val (.int (2000 : Int32)), .val (.int (2999 : Int32)), .val (.int ((near >>> ((1 : Int32) &&& 31)) % (3 : Int32))), .val (.int pr), .unset, .unset] [(.int ty), (.ref st_SYSTEM)])) rfl (by rw [hml]; rfl) (Steps.refl _) (argsL := [(.int ty)]) (rest := []) (lenOf own_pd0 rfl) rfl (by show 2 * 0 + _ ≤ _; exact Nat.le_of_eq rfl) (hb hby at_95) (fun _ _ => ⟨rfl, e69, (by decide : 0 + 0 ≤ _), (by decide : 0 + 0 ≤ _)⟩)
      dsimp only [Pt.U, Pt.locs, Pt.cells, Pt.slots] at X75 l75 y75 z75 st75 hQ75
      subst l75 y75 z75
      obtain ⟨rfl, rfl, eq73⟩ := hQ75
      try rw [List.append_nil] at X75
      have S76 : ∀ t, Steps p.tables e below (T75.setTop (mkF m 98 #[.val (.int sel), .val (.int ty), .val (.int near), .val (.int ((sel &&& (2147483647 : Int32)) % (3 : Int32))), .val (.ref st_SYSTEM), .val (.int (2000 : Int32)), .val (.int (2999 : Int32)), .val (.int ((near >>> ((1 : Int32) &&& 31)) % (3 : Int32))), .val (.int pr), .unset, .unset] [(.int (own_b (own_ct ty (2000 : Int32) (2999 : Int32))))])) t → Steps p.tables e below (s₁.setTop (entryFrame m #[(.int sel), (.int ty), (.int near)] maxLocals)) t := fun t kt => S74 t (st75.trans kt)
      have S78 : ∀ t, Steps p.tables e below (T75.setTop (mkF m 103 #[.val (.int sel), .val (.int ty), .val (.int near), .val (.int ((sel &&& (2147483647 : Int32)) % (3 : Int32))), .val (.ref st_SYSTEM), .val (.int (2000 : Int32)), .val (.int (2999 : Int32)), .val (.int ((near >>> ((1 : Int32) &&& 31)) % (3 : Int32))), .val (.int pr), .unset, .unset] [(.int ty), (.int (2999 : Int32)), (.int (2000 : Int32)), (.int (own_b (own_ct ty (2000 : Int32) (2999 : Int32))))])) t → Steps p.tables e below (s₁.setTop (entryFrame m #[(.int sel), (.int ty), (.int near)] maxLocals)) t := fun t kt => by
        refine S76 t ?_
        show Steps p.tables e below (T75.setTop (mkF m 98 #[.val (.int sel), .val (.int ty), .val (.int near), .val (.int ((sel &&& (2147483647 : Int32)) % (3 : Int32))), .val (.ref st_SYSTEM), .val (.int (2000 : Int32)), .val (.int (2999 : Int32)), .val (.int ((near >>> ((1 : Int32) &&& 31)) % (3 : Int32))), .val (.int pr), .unset, .unset] [(.int (own_b (own_ct ty (2000 : Int32) (2999 : Int32))))])) t
        refine XS.iload X75.here hx rfl (hb hby at_98) rfl ?_
        show Steps p.tables e below (T75.setTop (mkF m 100 #[.val (.int sel), .val (.int ty), .val (.int near), .val (.int ((sel &&& (2147483647 : Int32)) % (3 : Int32))), .val (.ref st_SYSTEM), .val (.int (2000 : Int32)), .val (.int (2999 : Int32)), .val (.int ((near >>> ((1 : Int32) &&& 31)) % (3 : Int32))), .val (.int pr), .unset, .unset] [(.int (2000 : Int32)), (.int (own_b (own_ct ty (2000 : Int32) (2999 : Int32))))])) t
        refine XS.iload X75.here hx rfl (hb hby at_100) rfl ?_
        show Steps p.tables e below (T75.setTop (mkF m 102 #[.val (.int sel), .val (.int ty), .val (.int near), .val (.int ((sel &&& (2147483647 : Int32)) % (3 : Int32))), .val (.ref st_SYSTEM), .val (.int (2000 : Int32)), .val (.int (2999 : Int32)), .val (.int ((near >>> ((1 : Int32) &&& 31)) % (3 : Int32))), .val (.int pr), .unset, .unset] [(.int (2999 : Int32)), (.int (2000 : Int32)), (.int (own_b (own_ct ty (2000 : Int32) (2999 : Int32))))])) t
        refine XS.iloadN X75.here hx rfl (hb hby at_102) rfl ?_
        exact kt
      obtain ⟨_, _, ⟨T79, L79, k79, n79⟩, -, X79, ⟨Lc79, hQ79, l79, y79, z79⟩, st79⟩ := Jvm.LawKit.callS X75 hx (y := (⟨"com/example/mullion/mullion/policy/WindowFamilyContainsPinLaw", "inRange", "(III)Z"⟩ : MethodName)) hown (mvT hZ (hw _ (List.mem_of_getElem? (i := 13) rfl))) (mvT hZ (hw _ (List.mem_of_getElem? (i := 14) rfl))) (mvT hZ (hw _ (List.mem_of_getElem? (i := 15) rfl))) (mvT hZ (hw _ (List.mem_of_getElem? (i := 16) rfl))) (by decide) (backOf (W := 1) (own_rm2 l Z a0 hw [] ((2000 : Int32)) ((2999 : Int32)) (ty) h0 n0 Z0) hZ (hw _ (List.mem_of_getElem? (i := 16) rfl)) (hw _ (List.mem_of_getElem? (i := 15) rfl)) (by decide) (by decide)) (g := (mkF m 103 #[.val (.int sel), .val (.int ty), .val (.int near), .val (.int ((sel &&& (2147483647 : Int32)) % (3 : Int32))), .val (.ref st_SYSTEM), .val (.int (2000 : Int32)), .val (.int (2999 : Int32)), .val (.int ((near >>> ((1 : Int32) &&& 31)) % (3 : Int32))), .val (.int pr), .unset, .unset] [(.int ty), (.int (2999 : Int32)), (.int (2000 : Int32)), (.int (own_b (own_ct ty (2000 : Int32) (2999 : Int32))))])) rfl (by rw [hml]; rfl) (argsL := [(.int (2000 : Int32)), (.int (2999 : Int32)), (.int ty)]) (rest := [(.int (own_b (own_ct ty (2000 : Int32) (2999 : Int32))))]) (lenOf own_pd1 rfl) rfl (by show 2 * 0 + _ ≤ _; exact Nat.le_of_eq rfl) (hb hby at_103) (fun _ _ => ⟨rfl, eq73, (by decide : 0 + 0 ≤ _), (by decide : 0 + 0 ≤ _)⟩)
      dsimp only [Pt.U, Pt.locs, Pt.cells, Pt.slots] at X79 l79 y79 z79 st79 hQ79
      subst l79 y79 z79
      obtain ⟨rfl, rfl, eq77⟩ := hQ79
      try rw [List.append_nil] at X79
      have S80 : ∀ t, Steps p.tables e below (T79.setTop (mkF m 106 #[.val (.int sel), .val (.int ty), .val (.int near), .val (.int ((sel &&& (2147483647 : Int32)) % (3 : Int32))), .val (.ref st_SYSTEM), .val (.int (2000 : Int32)), .val (.int (2999 : Int32)), .val (.int ((near >>> ((1 : Int32) &&& 31)) % (3 : Int32))), .val (.int pr), .unset, .unset] [(.int (own_b (own_ir (2000 : Int32) (2999 : Int32) ty))), (.int (own_b (own_ct ty (2000 : Int32) (2999 : Int32))))])) t → Steps p.tables e below (s₁.setTop (entryFrame m #[(.int sel), (.int ty), (.int near)] maxLocals)) t := fun t kt => S78 t (st79 _ kt)
      have hc106_81 : (own_b (own_ct ty (2000 : Int32) (2999 : Int32))) = (own_b (own_ir (2000 : Int32) (2999 : Int32) ty)) := own_plain _ _ _ (by decide)
      have S83 : ∀ t, Steps p.tables e below (T79.setTop (mkF m 120 #[.val (.int sel), .val (.int ty), .val (.int near), .val (.int ((sel &&& (2147483647 : Int32)) % (3 : Int32))), .val (.ref st_SYSTEM), .val (.int (2000 : Int32)), .val (.int (2999 : Int32)), .val (.int ((near >>> ((1 : Int32) &&& 31)) % (3 : Int32))), .val (.int pr), .val (.int (1 : Int32)), .unset] [(.int pr), (.ref st_SYSTEM)])) t → Steps p.tables e below (s₁.setTop (entryFrame m #[(.int sel), (.int ty), (.int near)] maxLocals)) t := fun t kt => by
        refine S80 t ?_
        show Steps p.tables e below (T79.setTop (mkF m 106 #[.val (.int sel), .val (.int ty), .val (.int near), .val (.int ((sel &&& (2147483647 : Int32)) % (3 : Int32))), .val (.ref st_SYSTEM), .val (.int (2000 : Int32)), .val (.int (2999 : Int32)), .val (.int ((near >>> ((1 : Int32) &&& 31)) % (3 : Int32))), .val (.int pr), .unset, .unset] [(.int (own_b (own_ir (2000 : Int32) (2999 : Int32) ty))), (.int (own_b (own_ct ty (2000 : Int32) (2999 : Int32))))])) t
        refine XS.icmpNo X79.here hx rfl (hb hby at_106) rfl (teq hc106_81).2 ?_
        show Steps p.tables e below (T79.setTop (mkF m 109 #[.val (.int sel), .val (.int ty), .val (.int near), .val (.int ((sel &&& (2147483647 : Int32)) % (3 : Int32))), .val (.ref st_SYSTEM), .val (.int (2000 : Int32)), .val (.int (2999 : Int32)), .val (.int ((near >>> ((1 : Int32) &&& 31)) % (3 : Int32))), .val (.int pr), .unset, .unset] [])) t
        refine XS.iconst X79.here hx rfl (hb hby at_109) ?_
        show Steps p.tables e below (T79.setTop (mkF m 110 #[.val (.int sel), .val (.int ty), .val (.int near), .val (.int ((sel &&& (2147483647 : Int32)) % (3 : Int32))), .val (.ref st_SYSTEM), .val (.int (2000 : Int32)), .val (.int (2999 : Int32)), .val (.int ((near >>> ((1 : Int32) &&& 31)) % (3 : Int32))), .val (.int pr), .unset, .unset] [(.int (1 : Int32))])) t
        refine XS.goto X79.here hx rfl (pc0 := 110) (pc' := 114) rfl (hb hby at_110) (by decide) (by decide) ?_
        show Steps p.tables e below (T79.setTop (mkF m 114 #[.val (.int sel), .val (.int ty), .val (.int near), .val (.int ((sel &&& (2147483647 : Int32)) % (3 : Int32))), .val (.ref st_SYSTEM), .val (.int (2000 : Int32)), .val (.int (2999 : Int32)), .val (.int ((near >>> ((1 : Int32) &&& 31)) % (3 : Int32))), .val (.int pr), .unset, .unset] [(.int (1 : Int32))])) t
        refine XS.istore X79.here hx rfl (hb hby at_114) rfl (l' := #[.val (.int sel), .val (.int ty), .val (.int near), .val (.int ((sel &&& (2147483647 : Int32)) % (3 : Int32))), .val (.ref st_SYSTEM), .val (.int (2000 : Int32)), .val (.int (2999 : Int32)), .val (.int ((near >>> ((1 : Int32) &&& 31)) % (3 : Int32))), .val (.int pr), .val (.int (1 : Int32)), .unset]) rfl ?_
        show Steps p.tables e below (T79.setTop (mkF m 116 #[.val (.int sel), .val (.int ty), .val (.int near), .val (.int ((sel &&& (2147483647 : Int32)) % (3 : Int32))), .val (.ref st_SYSTEM), .val (.int (2000 : Int32)), .val (.int (2999 : Int32)), .val (.int ((near >>> ((1 : Int32) &&& 31)) % (3 : Int32))), .val (.int pr), .val (.int (1 : Int32)), .unset] [])) t
        refine XS.aload X79.here hx rfl (hb hby at_116) rfl rfl ?_
        show Steps p.tables e below (T79.setTop (mkF m 118 #[.val (.int sel), .val (.int ty), .val (.int near), .val (.int ((sel &&& (2147483647 : Int32)) % (3 : Int32))), .val (.ref st_SYSTEM), .val (.int (2000 : Int32)), .val (.int (2999 : Int32)), .val (.int ((near >>> ((1 : Int32) &&& 31)) % (3 : Int32))), .val (.int pr), .val (.int (1 : Int32)), .unset] [(.ref st_SYSTEM)])) t
        refine XS.iload X79.here hx rfl (hb hby at_118) rfl ?_
        exact kt
      obtain ⟨cq84, kq84, q84a, q84b, q84c⟩ := isOf hZ eq77 E_SYSTEM
      obtain ⟨_, _, ⟨T84, L84, k84, n84⟩, -, X84, ⟨Lc84, hQ84, l84, y84, z84⟩, st84⟩ := X79.virtualBack hx (y := (⟨"com/example/mullion/mullion/policy/WindowFamily", "contains", "(I)Z"⟩ : MethodName)) (z := (⟨"com/example/mullion/mullion/policy/WindowFamily", "contains", "(I)Z"⟩ : MethodName)) hown (mvT hZ (hw _ (List.mem_of_getElem? (i := 4) rfl))) (mvT hZ (hw _ (List.mem_of_getElem? (i := 5) rfl))) (notFace_of_selects (args := #[]) (mvT hZ (hw _ (List.mem_of_getElem? (i := 7) rfl)))) (mvT hZ (hw _ (List.mem_of_getElem? (i := 7) rfl))) (mvT hZ (hw _ (List.mem_of_getElem? (i := 6) rfl))) (by decide) (backOf (W := 0) (own_rm1 l Z a0 hw [] (st_SYSTEM) (pr) ((2000 : Int32)) ((2999 : Int32)) h0 n0 Z0 A_SYSTEM B_SYSTEM) hZ (hw _ (List.mem_of_getElem? (i := 8) rfl)) (hw _ (List.mem_of_getElem? (i := 2) rfl)) (by decide) (by decide)) q84a q84c (g := (mkF m 120 #[.val (.int sel), .val (.int ty), .val (.int near), .val (.int ((sel &&& (2147483647 : Int32)) % (3 : Int32))), .val (.ref st_SYSTEM), .val (.int (2000 : Int32)), .val (.int (2999 : Int32)), .val (.int ((near >>> ((1 : Int32) &&& 31)) % (3 : Int32))), .val (.int pr), .val (.int (1 : Int32)), .unset] [(.int pr), (.ref st_SYSTEM)])) rfl (by rw [hml]; rfl) (Steps.refl _) (argsL := [(.int pr)]) (rest := []) (lenOf own_pd0 rfl) rfl (by show 2 * 0 + _ ≤ _; exact Nat.le_of_eq rfl) (hb hby at_120) (fun _ _ => ⟨rfl, eq77, (by decide : 0 + 0 ≤ _), (by decide : 0 + 0 ≤ _)⟩)
      dsimp only [Pt.U, Pt.locs, Pt.cells, Pt.slots] at X84 l84 y84 z84 st84 hQ84
      subst l84 y84 z84
      obtain ⟨rfl, rfl, eq82⟩ := hQ84
      try rw [List.append_nil] at X84
      have S85 : ∀ t, Steps p.tables e below (T84.setTop (mkF m 123 #[.val (.int sel), .val (.int ty), .val (.int near), .val (.int ((sel &&& (2147483647 : Int32)) % (3 : Int32))), .val (.ref st_SYSTEM), .val (.int (2000 : Int32)), .val (.int (2999 : Int32)), .val (.int ((near >>> ((1 : Int32) &&& 31)) % (3 : Int32))), .val (.int pr), .val (.int (1 : Int32)), .unset] [(.int (own_b (own_ct pr (2000 : Int32) (2999 : Int32))))])) t → Steps p.tables e below (s₁.setTop (entryFrame m #[(.int sel), (.int ty), (.int near)] maxLocals)) t := fun t kt => S83 t (st84.trans kt)
      have S87 : ∀ t, Steps p.tables e below (T84.setTop (mkF m 129 #[.val (.int sel), .val (.int ty), .val (.int near), .val (.int ((sel &&& (2147483647 : Int32)) % (3 : Int32))), .val (.ref st_SYSTEM), .val (.int (2000 : Int32)), .val (.int (2999 : Int32)), .val (.int ((near >>> ((1 : Int32) &&& 31)) % (3 : Int32))), .val (.int pr), .val (.int (1 : Int32)), .unset] [(.int pr), (.int (2999 : Int32)), (.int (2000 : Int32)), (.int (own_b (own_ct pr (2000 : Int32) (2999 : Int32))))])) t → Steps p.tables e below (s₁.setTop (entryFrame m #[(.int sel), (.int ty), (.int near)] maxLocals)) t := fun t kt => by
        refine S85 t ?_
        show Steps p.tables e below (T84.setTop (mkF m 123 #[.val (.int sel), .val (.int ty), .val (.int near), .val (.int ((sel &&& (2147483647 : Int32)) % (3 : Int32))), .val (.ref st_SYSTEM), .val (.int (2000 : Int32)), .val (.int (2999 : Int32)), .val (.int ((near >>> ((1 : Int32) &&& 31)) % (3 : Int32))), .val (.int pr), .val (.int (1 : Int32)), .unset] [(.int (own_b (own_ct pr (2000 : Int32) (2999 : Int32))))])) t
        refine XS.iload X84.here hx rfl (hb hby at_123) rfl ?_
        show Steps p.tables e below (T84.setTop (mkF m 125 #[.val (.int sel), .val (.int ty), .val (.int near), .val (.int ((sel &&& (2147483647 : Int32)) % (3 : Int32))), .val (.ref st_SYSTEM), .val (.int (2000 : Int32)), .val (.int (2999 : Int32)), .val (.int ((near >>> ((1 : Int32) &&& 31)) % (3 : Int32))), .val (.int pr), .val (.int (1 : Int32)), .unset] [(.int (2000 : Int32)), (.int (own_b (own_ct pr (2000 : Int32) (2999 : Int32))))])) t
        refine XS.iload X84.here hx rfl (hb hby at_125) rfl ?_
        show Steps p.tables e below (T84.setTop (mkF m 127 #[.val (.int sel), .val (.int ty), .val (.int near), .val (.int ((sel &&& (2147483647 : Int32)) % (3 : Int32))), .val (.ref st_SYSTEM), .val (.int (2000 : Int32)), .val (.int (2999 : Int32)), .val (.int ((near >>> ((1 : Int32) &&& 31)) % (3 : Int32))), .val (.int pr), .val (.int (1 : Int32)), .unset] [(.int (2999 : Int32)), (.int (2000 : Int32)), (.int (own_b (own_ct pr (2000 : Int32) (2999 : Int32))))])) t
        refine XS.iload X84.here hx rfl (hb hby at_127) rfl ?_
        exact kt
      obtain ⟨_, _, ⟨T88, L88, k88, n88⟩, -, X88, ⟨Lc88, hQ88, l88, y88, z88⟩, st88⟩ := Jvm.LawKit.callS X84 hx (y := (⟨"com/example/mullion/mullion/policy/WindowFamilyContainsPinLaw", "inRange", "(III)Z"⟩ : MethodName)) hown (mvT hZ (hw _ (List.mem_of_getElem? (i := 13) rfl))) (mvT hZ (hw _ (List.mem_of_getElem? (i := 14) rfl))) (mvT hZ (hw _ (List.mem_of_getElem? (i := 15) rfl))) (mvT hZ (hw _ (List.mem_of_getElem? (i := 16) rfl))) (by decide) (backOf (W := 1) (own_rm2 l Z a0 hw [] ((2000 : Int32)) ((2999 : Int32)) (pr) h0 n0 Z0) hZ (hw _ (List.mem_of_getElem? (i := 16) rfl)) (hw _ (List.mem_of_getElem? (i := 15) rfl)) (by decide) (by decide)) (g := (mkF m 129 #[.val (.int sel), .val (.int ty), .val (.int near), .val (.int ((sel &&& (2147483647 : Int32)) % (3 : Int32))), .val (.ref st_SYSTEM), .val (.int (2000 : Int32)), .val (.int (2999 : Int32)), .val (.int ((near >>> ((1 : Int32) &&& 31)) % (3 : Int32))), .val (.int pr), .val (.int (1 : Int32)), .unset] [(.int pr), (.int (2999 : Int32)), (.int (2000 : Int32)), (.int (own_b (own_ct pr (2000 : Int32) (2999 : Int32))))])) rfl (by rw [hml]; rfl) (argsL := [(.int (2000 : Int32)), (.int (2999 : Int32)), (.int pr)]) (rest := [(.int (own_b (own_ct pr (2000 : Int32) (2999 : Int32))))]) (lenOf own_pd1 rfl) rfl (by show 2 * 0 + _ ≤ _; exact Nat.le_of_eq rfl) (hb hby at_129) (fun _ _ => ⟨rfl, eq82, (by decide : 0 + 0 ≤ _), (by decide : 0 + 0 ≤ _)⟩)
      dsimp only [Pt.U, Pt.locs, Pt.cells, Pt.slots] at X88 l88 y88 z88 st88 hQ88
      subst l88 y88 z88
      obtain ⟨rfl, rfl, eq86⟩ := hQ88
      try rw [List.append_nil] at X88
      have S89 : ∀ t, Steps p.tables e below (T88.setTop (mkF m 132 #[.val (.int sel), .val (.int ty), .val (.int near), .val (.int ((sel &&& (2147483647 : Int32)) % (3 : Int32))), .val (.ref st_SYSTEM), .val (.int (2000 : Int32)), .val (.int (2999 : Int32)), .val (.int ((near >>> ((1 : Int32) &&& 31)) % (3 : Int32))), .val (.int pr), .val (.int (1 : Int32)), .unset] [(.int (own_b (own_ir (2000 : Int32) (2999 : Int32) pr))), (.int (own_b (own_ct pr (2000 : Int32) (2999 : Int32))))])) t → Steps p.tables e below (s₁.setTop (entryFrame m #[(.int sel), (.int ty), (.int near)] maxLocals)) t := fun t kt => S87 t (st88 _ kt)
      have hc132_90 : (own_b (own_ct pr (2000 : Int32) (2999 : Int32))) = (own_b (own_ir (2000 : Int32) (2999 : Int32) pr)) := own_plain _ _ _ (by decide)
      have S91 : ∀ t, Steps p.tables e below (T88.setTop (mkF m 144 #[.val (.int sel), .val (.int ty), .val (.int near), .val (.int ((sel &&& (2147483647 : Int32)) % (3 : Int32))), .val (.ref st_SYSTEM), .val (.int (2000 : Int32)), .val (.int (2999 : Int32)), .val (.int ((near >>> ((1 : Int32) &&& 31)) % (3 : Int32))), .val (.int pr), .val (.int (1 : Int32)), .val (.int (1 : Int32))] [(.int (1 : Int32))])) t → Steps p.tables e below (s₁.setTop (entryFrame m #[(.int sel), (.int ty), (.int near)] maxLocals)) t := fun t kt => by
        refine S89 t ?_
        show Steps p.tables e below (T88.setTop (mkF m 132 #[.val (.int sel), .val (.int ty), .val (.int near), .val (.int ((sel &&& (2147483647 : Int32)) % (3 : Int32))), .val (.ref st_SYSTEM), .val (.int (2000 : Int32)), .val (.int (2999 : Int32)), .val (.int ((near >>> ((1 : Int32) &&& 31)) % (3 : Int32))), .val (.int pr), .val (.int (1 : Int32)), .unset] [(.int (own_b (own_ir (2000 : Int32) (2999 : Int32) pr))), (.int (own_b (own_ct pr (2000 : Int32) (2999 : Int32))))])) t
        refine XS.icmpNo X88.here hx rfl (hb hby at_132) rfl (teq hc132_90).2 ?_
        show Steps p.tables e below (T88.setTop (mkF m 135 #[.val (.int sel), .val (.int ty), .val (.int near), .val (.int ((sel &&& (2147483647 : Int32)) % (3 : Int32))), .val (.ref st_SYSTEM), .val (.int (2000 : Int32)), .val (.int (2999 : Int32)), .val (.int ((near >>> ((1 : Int32) &&& 31)) % (3 : Int32))), .val (.int pr), .val (.int (1 : Int32)), .unset] [])) t
        refine XS.iconst X88.here hx rfl (hb hby at_135) ?_
        show Steps p.tables e below (T88.setTop (mkF m 136 #[.val (.int sel), .val (.int ty), .val (.int near), .val (.int ((sel &&& (2147483647 : Int32)) % (3 : Int32))), .val (.ref st_SYSTEM), .val (.int (2000 : Int32)), .val (.int (2999 : Int32)), .val (.int ((near >>> ((1 : Int32) &&& 31)) % (3 : Int32))), .val (.int pr), .val (.int (1 : Int32)), .unset] [(.int (1 : Int32))])) t
        refine XS.goto X88.here hx rfl (pc0 := 136) (pc' := 140) rfl (hb hby at_136) (by decide) (by decide) ?_
        show Steps p.tables e below (T88.setTop (mkF m 140 #[.val (.int sel), .val (.int ty), .val (.int near), .val (.int ((sel &&& (2147483647 : Int32)) % (3 : Int32))), .val (.ref st_SYSTEM), .val (.int (2000 : Int32)), .val (.int (2999 : Int32)), .val (.int ((near >>> ((1 : Int32) &&& 31)) % (3 : Int32))), .val (.int pr), .val (.int (1 : Int32)), .unset] [(.int (1 : Int32))])) t
        refine XS.istore X88.here hx rfl (hb hby at_140) rfl (l' := #[.val (.int sel), .val (.int ty), .val (.int near), .val (.int ((sel &&& (2147483647 : Int32)) % (3 : Int32))), .val (.ref st_SYSTEM), .val (.int (2000 : Int32)), .val (.int (2999 : Int32)), .val (.int ((near >>> ((1 : Int32) &&& 31)) % (3 : Int32))), .val (.int pr), .val (.int (1 : Int32)), .val (.int (1 : Int32))]) rfl ?_
        show Steps p.tables e below (T88.setTop (mkF m 142 #[.val (.int sel), .val (.int ty), .val (.int near), .val (.int ((sel &&& (2147483647 : Int32)) % (3 : Int32))), .val (.ref st_SYSTEM), .val (.int (2000 : Int32)), .val (.int (2999 : Int32)), .val (.int ((near >>> ((1 : Int32) &&& 31)) % (3 : Int32))), .val (.int pr), .val (.int (1 : Int32)), .val (.int (1 : Int32))] [])) t
        refine XS.iload X88.here hx rfl (hb hby at_142) rfl ?_
        exact kt
      have hc144_92 : ¬ ((1 : Int32) = (0 : Int32)) := by decide
      have S93 : ∀ t, Steps p.tables e below (T88.setTop (mkF m 149 #[.val (.int sel), .val (.int ty), .val (.int near), .val (.int ((sel &&& (2147483647 : Int32)) % (3 : Int32))), .val (.ref st_SYSTEM), .val (.int (2000 : Int32)), .val (.int (2999 : Int32)), .val (.int ((near >>> ((1 : Int32) &&& 31)) % (3 : Int32))), .val (.int pr), .val (.int (1 : Int32)), .val (.int (1 : Int32))] [(.int (1 : Int32))])) t → Steps p.tables e below (s₁.setTop (entryFrame m #[(.int sel), (.int ty), (.int near)] maxLocals)) t := fun t kt => by
        refine S91 t ?_
        show Steps p.tables e below (T88.setTop (mkF m 144 #[.val (.int sel), .val (.int ty), .val (.int near), .val (.int ((sel &&& (2147483647 : Int32)) % (3 : Int32))), .val (.ref st_SYSTEM), .val (.int (2000 : Int32)), .val (.int (2999 : Int32)), .val (.int ((near >>> ((1 : Int32) &&& 31)) % (3 : Int32))), .val (.int pr), .val (.int (1 : Int32)), .val (.int (1 : Int32))] [(.int (1 : Int32))])) t
        refine XS.ifNo X88.here hx rfl (hb hby at_144) rfl ((if0 _ _).trans (feq hc144_92).1) ?_
        show Steps p.tables e below (T88.setTop (mkF m 147 #[.val (.int sel), .val (.int ty), .val (.int near), .val (.int ((sel &&& (2147483647 : Int32)) % (3 : Int32))), .val (.ref st_SYSTEM), .val (.int (2000 : Int32)), .val (.int (2999 : Int32)), .val (.int ((near >>> ((1 : Int32) &&& 31)) % (3 : Int32))), .val (.int pr), .val (.int (1 : Int32)), .val (.int (1 : Int32))] [])) t
        refine XS.iload X88.here hx rfl (hb hby at_147) rfl ?_
        exact kt
      have hc149_94 : ¬ ((1 : Int32) = (0 : Int32)) := by decide
      have S95 : ∀ t, Steps p.tables e below (T88.setTop (mkF m 157 #[.val (.int sel), .val (.int ty), .val (.int near), .val (.int ((sel &&& (2147483647 : Int32)) % (3 : Int32))), .val (.ref st_SYSTEM), .val (.int (2000 : Int32)), .val (.int (2999 : Int32)), .val (.int ((near >>> ((1 : Int32) &&& 31)) % (3 : Int32))), .val (.int pr), .val (.int (1 : Int32)), .val (.int (1 : Int32))] [(.int (1 : Int32))])) t → Steps p.tables e below (s₁.setTop (entryFrame m #[(.int sel), (.int ty), (.int near)] maxLocals)) t := fun t kt => by
        refine S93 t ?_
        show Steps p.tables e below (T88.setTop (mkF m 149 #[.val (.int sel), .val (.int ty), .val (.int near), .val (.int ((sel &&& (2147483647 : Int32)) % (3 : Int32))), .val (.ref st_SYSTEM), .val (.int (2000 : Int32)), .val (.int (2999 : Int32)), .val (.int ((near >>> ((1 : Int32) &&& 31)) % (3 : Int32))), .val (.int pr), .val (.int (1 : Int32)), .val (.int (1 : Int32))] [(.int (1 : Int32))])) t
        refine XS.ifNo X88.here hx rfl (hb hby at_149) rfl ((if0 _ _).trans (feq hc149_94).1) ?_
        show Steps p.tables e below (T88.setTop (mkF m 152 #[.val (.int sel), .val (.int ty), .val (.int near), .val (.int ((sel &&& (2147483647 : Int32)) % (3 : Int32))), .val (.ref st_SYSTEM), .val (.int (2000 : Int32)), .val (.int (2999 : Int32)), .val (.int ((near >>> ((1 : Int32) &&& 31)) % (3 : Int32))), .val (.int pr), .val (.int (1 : Int32)), .val (.int (1 : Int32))] [])) t
        refine XS.iconst X88.here hx rfl (hb hby at_152) ?_
        show Steps p.tables e below (T88.setTop (mkF m 153 #[.val (.int sel), .val (.int ty), .val (.int near), .val (.int ((sel &&& (2147483647 : Int32)) % (3 : Int32))), .val (.ref st_SYSTEM), .val (.int (2000 : Int32)), .val (.int (2999 : Int32)), .val (.int ((near >>> ((1 : Int32) &&& 31)) % (3 : Int32))), .val (.int pr), .val (.int (1 : Int32)), .val (.int (1 : Int32))] [(.int (1 : Int32))])) t
        refine XS.goto X88.here hx rfl (pc0 := 153) (pc' := 157) rfl (hb hby at_153) (by decide) (by decide) ?_
        exact kt
      obtain ⟨fs, hr, hrun, hended, hW, hsame⟩ := X88.leave (v := some (.int (nar .boolean (1 : Int32)))) (fun h => by rw [Bd.returns] at h; cases h)
      refine ⟨_, _, S95 _ ?_, hrun, hended, _, _, rfl, ?_, ⟨_, rfl⟩, hW, hsame.mono (by decide) (by decide)⟩
      · show Steps p.tables e below (T88.setTop (mkF m 157 #[.val (.int sel), .val (.int ty), .val (.int near), .val (.int ((sel &&& (2147483647 : Int32)) % (3 : Int32))), .val (.ref st_SYSTEM), .val (.int (2000 : Int32)), .val (.int (2999 : Int32)), .val (.int ((near >>> ((1 : Int32) &&& 31)) % (3 : Int32))), .val (.int pr), .val (.int (1 : Int32)), .val (.int (1 : Int32))] [(.int (1 : Int32))])) _
        exact retN X88 hx (t := .boolean) Bd.returns (by simp) (hb hby at_157) hr
      · show own_Q0 Z sel ty near st_APPLICATION st_SUB_WINDOW st_SYSTEM h0 n0 _ T88.heap _
        rw [eq86]
        exact ⟨rfl, N0⟩
set_option maxHeartbeats 40000000 in
theorem own_comes {Post : Tables → Env → Array Value → State → Outcome → State → Prop} (hpost : ∀ tb e args s v u, (limb_1_1.after args s (.returned v) u = true ∧ limb_1_2.after args s (.returned v) u = true ∧ True) → FrameEnd s (.returned v) u (Jvm.fieldLocs frame_1_writes args s ++ Jvm.arrayLocs frame_1_arrays args s ++ Jvm.staticLocs frame_1_statics s) 0 0 → Post tb e args s (.returned v) u) :
    ArmFor flags0 classFile x code maxLocals ret World_1 tables_1 room_1 Calls_1 rest_1 Pre_1 Post := by
  intro l hfl _ _ p e ha hc hk s m args below hf hA hF happ hP
  obtain ⟨hcalls, hrest, hpre⟩ := hP
  obtain ⟨-, -, -, hnamed, -, -, -, hat⟩ := (Spec.applies_iff hf).mp happ
  obtain ⟨hg, hn⟩ := and_e (Cond.before_iff.mp (show (Jvm.Cond.and given_1 narrow_1).before args s = true from hpre))
  obtain ⟨g1, g2⟩ := and_e hg
  obtain ⟨g3, g4⟩ := and_e g2
  obtain ⟨g5, g6⟩ := and_e g4
  obtain ⟨g7, g8⟩ := and_e hn
  obtain ⟨g9, g10⟩ := and_e g8
  obtain ⟨g11, g12⟩ := and_e g10
  obtain ⟨g13, g14⟩ := and_e g12
  obtain ⟨g15, g16⟩ := and_e g14
  obtain ⟨g17, g18⟩ := and_e g16
  obtain ⟨g19, g20⟩ := and_e g18
  obtain ⟨g21, g22⟩ := and_e g20
  obtain ⟨w0, w1, w2, rfl⟩ : ∃ w0 w1 w2 : Value, args = #[w0, w1, w2] := by
    have hs : args.size = 3 := by simpa [Cond.value, given_1] using g1
    obtain ⟨L⟩ := args
    match L, hs with
    | [w0, w1, w2], _ => exact ⟨w0, w1, w2, rfl⟩
  have hw := fun d (hd : d ∈ tables_1) => atoms_spec (ws := Jvm.Cond.code x code maxLocals ret :: tables_1) hat d (List.mem_cons_of_mem _ hd)
  have hfit : Fit s := fun {y c} hc i hi => by
    obtain ⟨ha, rfl⟩ := Array.getElem?_eq_some_iff.mp hc
    have q := List.all_eq_true.mp ((Array.all_eq_true_iff_forall_mem.mp hF) _ (Array.getElem_mem ha)) i (List.mem_range.mpr hi)
    simpa [Array.getElem?_eq_getElem hi] using q
  obtain ⟨i0, ei0⟩ := is_v g3
  obtain rfl : w0 = (.int i0) := Option.some.inj ei0
  obtain ⟨i1, ei1⟩ := is_v g5
  obtain rfl : w1 = (.int i1) := Option.some.inj ei1
  obtain ⟨i2, ei2⟩ := is_v g6
  obtain rfl : w2 = (.int i2) := Option.some.inj ei2
  obtain ⟨st_APPLICATION, ev_APPLICATION⟩ := exa_v g7
  have S_APPLICATION : Sta s s.heap "com/example/mullion/mullion/policy/WindowFamily" "APPLICATION" "Lcom/example/mullion/mullion/policy/WindowFamily;" (.ref st_APPLICATION) := Sta.start ev_APPLICATION (Or.inr ⟨(hw _ (List.mem_of_getElem? (i := 2) rfl)), (hw _ (List.mem_of_getElem? (i := 3) rfl))⟩)
  have E_APPLICATION : Exa s s.heap st_APPLICATION "com/example/mullion/mullion/policy/WindowFamily" := Exa.start ev_APPLICATION g7
  obtain ⟨st_SUB_WINDOW, ev_SUB_WINDOW⟩ := exa_v g13
  have S_SUB_WINDOW : Sta s s.heap "com/example/mullion/mullion/policy/WindowFamily" "SUB_WINDOW" "Lcom/example/mullion/mullion/policy/WindowFamily;" (.ref st_SUB_WINDOW) := Sta.start ev_SUB_WINDOW (Or.inr ⟨(hw _ (List.mem_of_getElem? (i := 2) rfl)), (hw _ (List.mem_of_getElem? (i := 18) rfl))⟩)
  have E_SUB_WINDOW : Exa s s.heap st_SUB_WINDOW "com/example/mullion/mullion/policy/WindowFamily" := Exa.start ev_SUB_WINDOW g13
  obtain ⟨st_SYSTEM, ev_SYSTEM⟩ := exa_v g19
  have S_SYSTEM : Sta s s.heap "com/example/mullion/mullion/policy/WindowFamily" "SYSTEM" "Lcom/example/mullion/mullion/policy/WindowFamily;" (.ref st_SYSTEM) := Sta.start ev_SYSTEM (Or.inr ⟨(hw _ (List.mem_of_getElem? (i := 2) rfl)), (hw _ (List.mem_of_getElem? (i := 20) rfl))⟩)
  have E_SYSTEM : Exa s s.heap st_SYSTEM "com/example/mullion/mullion/policy/WindowFamily" := Exa.start ev_SYSTEM g19
  have F_APPLICATION_first : Fld s s.heap st_APPLICATION "com/example/mullion/mullion/policy/WindowFamily" "first" "I" (.int (1 : Int32)) := by
    obtain ⟨vx, vy, ex, ey, kx, ky⟩ := cmp_v (Or.inl g9)
    obtain rfl : vy = .int (1 : Int32) := (Option.some.inj ey).symm
    obtain ⟨vz, rfl⟩ := ky
    have hq := gotT (Cond.eq_ints ex ey) g9
    subst hq
    exact Fld.start ((fld_at ev_APPLICATION).symm.trans ex)
  have F_APPLICATION_last : Fld s s.heap st_APPLICATION "com/example/mullion/mullion/policy/WindowFamily" "last" "I" (.int (99 : Int32)) := by
    obtain ⟨vx, vy, ex, ey, kx, ky⟩ := cmp_v (Or.inl g11)
    obtain rfl : vy = .int (99 : Int32) := (Option.some.inj ey).symm
    obtain ⟨vz, rfl⟩ := ky
    have hq := gotT (Cond.eq_ints ex ey) g11
    subst hq
    exact Fld.start ((fld_at ev_APPLICATION).symm.trans ex)
  have F_SUB_WINDOW_first : Fld s s.heap st_SUB_WINDOW "com/example/mullion/mullion/policy/WindowFamily" "first" "I" (.int (1000 : Int32)) := by
    obtain ⟨vx, vy, ex, ey, kx, ky⟩ := cmp_v (Or.inl g15)
    obtain rfl : vy = .int (1000 : Int32) := (Option.some.inj ey).symm
    obtain ⟨vz, rfl⟩ := ky
    have hq := gotT (Cond.eq_ints ex ey) g15
    subst hq
    exact Fld.start ((fld_at ev_SUB_WINDOW).symm.trans ex)
  have F_SUB_WINDOW_last : Fld s s.heap st_SUB_WINDOW "com/example/mullion/mullion/policy/WindowFamily" "last" "I" (.int (1999 : Int32)) := by
    obtain ⟨vx, vy, ex, ey, kx, ky⟩ := cmp_v (Or.inl g17)
    obtain rfl : vy = .int (1999 : Int32) := (Option.some.inj ey).symm
    obtain ⟨vz, rfl⟩ := ky
    have hq := gotT (Cond.eq_ints ex ey) g17
    subst hq
    exact Fld.start ((fld_at ev_SUB_WINDOW).symm.trans ex)
  have F_SYSTEM_first : Fld s s.heap st_SYSTEM "com/example/mullion/mullion/policy/WindowFamily" "first" "I" (.int (2000 : Int32)) := by
    obtain ⟨vx, vy, ex, ey, kx, ky⟩ := cmp_v (Or.inl g21)
    obtain rfl : vy = .int (2000 : Int32) := (Option.some.inj ey).symm
    obtain ⟨vz, rfl⟩ := ky
    have hq := gotT (Cond.eq_ints ex ey) g21
    subst hq
    exact Fld.start ((fld_at ev_SYSTEM).symm.trans ex)
  have F_SYSTEM_last : Fld s s.heap st_SYSTEM "com/example/mullion/mullion/policy/WindowFamily" "last" "I" (.int (2999 : Int32)) := by
    obtain ⟨vx, vy, ex, ey, kx, ky⟩ := cmp_v (Or.inl g22)
    obtain rfl : vy = .int (2999 : Int32) := (Option.some.inj ey).symm
    obtain ⟨vz, rfl⟩ := ky
    have hq := gotT (Cond.eq_ints ex ey) g22
    subst hq
    exact Fld.start ((fld_at ev_SYSTEM).symm.trans ex)
  obtain ⟨n, o, h1, h2, h3, _, L, rfl, ⟨rfl, N⟩, hq⟩ := own_rm0 l s _ hw tables_1 i0 i1 i2 st_APPLICATION st_SUB_WINDOW st_SYSTEM s.heap s.heap.size (Nat.le_refl _) S_APPLICATION E_APPLICATION F_APPLICATION_first F_APPLICATION_last S_SUB_WINDOW E_SUB_WINDOW F_SUB_WINDOW_first F_SUB_WINDOW_last S_SYSTEM E_SYSTEM F_SYSTEM_first F_SYSTEM_last p e ha hc hk s m _ below hf ((Spec.applies_iff_loose hf).mp happ).1 ⟨rfl, State.Warmed39.refl s, rfl⟩ trivial
  refine ⟨n, _, h1, h2, h3, hpost _ _ _ _ _ _ ⟨Cond.after_iff.mpr rfl, Cond.after_iff.mpr (eq_i res_at (Term.int_eval (1)) rfl), trivial⟩ ⟨hq.1, hq.2.1, (hq.2.2.sift fun y hy => Or.inr (N y hy)).mono (by decide) (by decide)⟩⟩
theorem main_1_1 : Claimed_1_1 := own_comes fun _ _ _ _ _ _ h hF => ⟨h.1, hF⟩
theorem main_1_2 : Claimed_1_2 := own_comes fun _ _ _ _ _ _ h hF => ⟨h.2.1, hF⟩
end Jvm.Pilot.@@N@@
namespace Jvm.Pilot.@@N@@
open Jvm Jvm.ClassFile Sem Op Lib Jvm.Free Jvm.Stand Jvm.Pilot.@@N@@.Jvm.D
/-! MADE BY PROGRAM (witnessworld.py) out of the Statement's table words and the real class files: 12 classes; the members and pool entries that the words name. The judged class is class 1, her method 1. -/
namespace start1
open Jvm.ClassFile
def u (s : String) : CpInfo := .utf8 (stringToUtf16 s)
/-- a pool by its gaps: so many unusable entries, then the entry; so many at the end -/
def gap : Nat → List CpInfo → List CpInfo
  | 0, r => r
  | n + 1, r => .unusable :: gap n r
def poolList (es : List (Nat × CpInfo)) (last : Nat) : List CpInfo := es.foldr (fun e r => gap e.1 (e.2 :: r)) (gap last [])
def pool (es : List (Nat × CpInfo)) (last : Nat) : Array CpInfo := ⟨poolList es last⟩
def fileOf (pool : Array CpInfo) (this : Nat) (attrs : Array Attribute := #[]) (ms : Array MethodInfo := #[]) (fl : Nat := 33) (sup : Nat := 0) (ifs : Array Nat := #[]) (fds : Array FieldInfo := #[]) : ClassFile where
  minorVersion := 0
  majorVersion := 65
  constantPool := pool
  accessFlags := fl
  thisClass := this
  superClass := sup
  interfaces := ifs
  fields := fds
  methods := ms
  attributes := attrs
def plain (name : String) (sup : Option ClassId) : Class where
  name := name
  kind := .ordinary
  loader := none
  accessFlags := 33
  super := sup
  interfaces := #[]
  cf := none
  fields := #[]
  methods := #[]
  instanceTypes := #[]
  staticTypes := #[]
  resolved := #[]
  callSites := []
  init := .initialized
  statics := none
  mirror := none

def pool0 : Array CpInfo := pool [(5, u "<init>"), (0, u "()V"), (1, .class_ 10), (1, u "java/lang/Object")] 113

def k0m0 : Method := { name := "<init>", desc := "()V", sig := { parameters := [], returnType := none }, accessFlags := 1, code := none }
/-- java/lang/Object -/
def k0 : Class := { plain "java/lang/Object" none with
  accessFlags := 33
  interfaces := #[]
  cf := some (fileOf pool0 8 #[] #[{ accessFlags := 1, nameIndex := 5, descriptorIndex := 6, attributes := #[] }] 33 0 #[] #[])
  fields := #[]
  methods := #[k0m0]
  instanceTypes := #[]
  staticTypes := #[]
  resolved := Array.replicate 124 none
  statics := none }

def pool1 : Array CpInfo := pool [(2, .class_ 4), (1, u "java/lang/Object"), (0, u "<init>"), (0, u "()V"), (0, .integer 2147483647), (0, .fieldref 9 10), (0, .class_ 11), (0, .nameAndType 12 13), (0, u "com/example/mullion/mullion/policy/WindowFamily"), (0, u "APPLICATION"), (0, u "Lcom/example/mullion/mullion/policy/WindowFamily;"), (0, .fieldref 9 15), (0, .nameAndType 16 13), (0, u "SUB_WINDOW"), (0, .fieldref 9 18), (0, .nameAndType 19 13), (0, u "SYSTEM"), (0, .methodref 9 21), (0, .nameAndType 22 23), (0, u "contains"), (0, u "(I)Z"), (0, .methodref 25 26), (0, .class_ 27), (0, .nameAndType 28 29), (0, u "com/example/mullion/mullion/policy/WindowFamilyContainsPinLaw"), (0, u "inRange"), (0, u "(III)Z"), (2, u "law")] 3

def k1m0 : Method := { name := "<init>", desc := "()V", sig := { parameters := [], returnType := none }, accessFlags := 1, code := none }
def k1c1 : Code := { maxStack := 4, maxLocals := 11, code := code, exceptionTable := #[], attributes := #[] }
def k1m1 : Method := { name := "law", desc := "(III)Z", sig := { parameters := [.int, .int, .int], returnType := some .boolean }, accessFlags := 9, code := some k1c1 }
def k1c2 : Code := { maxStack := 4, maxLocals := 7, code := method_3_code, exceptionTable := #[], attributes := #[] }
def k1m2 : Method := { name := "inRange", desc := "(III)Z", sig := { parameters := [.int, .int, .int], returnType := some .boolean }, accessFlags := 10, code := some k1c2 }
/-- com/example/mullion/mullion/policy/WindowFamilyContainsPinLaw -/
def k1 : Class := { plain "com/example/mullion/mullion/policy/WindowFamilyContainsPinLaw" (some 0) with
  accessFlags := 49
  interfaces := #[]
  cf := some (fileOf pool1 25 #[] #[{ accessFlags := 1, nameIndex := 5, descriptorIndex := 6, attributes := #[] }, { accessFlags := 9, nameIndex := 32, descriptorIndex := 29, attributes := #[] }, { accessFlags := 10, nameIndex := 28, descriptorIndex := 29, attributes := #[] }] 49 2 #[] #[])
  fields := #[]
  methods := #[k1m0, k1m1, k1m2]
  instanceTypes := #[]
  staticTypes := #[]
  resolved := Array.replicate 36 none
  statics := none }

def pool2 : Array CpInfo := pool [(1, .class_ 2), (0, u "java/lang/constant/Constable"), (0, .class_ 4), (0, u "java/lang/Object")] 6

/-- java/lang/constant/Constable -/
def k2 : Class := { plain "java/lang/constant/Constable" (some 0) with
  accessFlags := 1537
  interfaces := #[]
  cf := some (fileOf pool2 1 #[] #[] 1537 3 #[] #[])
  fields := #[]
  methods := #[]
  instanceTypes := #[]
  staticTypes := #[]
  resolved := Array.replicate 11 none
  statics := none }

def pool3 : Array CpInfo := pool [(1, .class_ 2), (0, u "java/lang/Comparable"), (0, .class_ 4), (0, u "java/lang/Object")] 7

/-- java/lang/Comparable -/
def k3 : Class := { plain "java/lang/Comparable" (some 0) with
  accessFlags := 1537
  interfaces := #[]
  cf := some (fileOf pool3 1 #[] #[] 1537 3 #[] #[])
  fields := #[]
  methods := #[]
  instanceTypes := #[]
  staticTypes := #[]
  resolved := Array.replicate 12 none
  statics := none }

def pool4 : Array CpInfo := pool [(1, .class_ 2), (0, u "java/io/Serializable"), (0, .class_ 4), (0, u "java/lang/Object")] 2

/-- java/io/Serializable -/
def k4 : Class := { plain "java/io/Serializable" (some 0) with
  accessFlags := 1537
  interfaces := #[]
  cf := some (fileOf pool4 1 #[] #[] 1537 3 #[] #[])
  fields := #[]
  methods := #[]
  instanceTypes := #[]
  staticTypes := #[]
  resolved := Array.replicate 7 none
  statics := none }

def pool5 : Array CpInfo := pool [(2, .class_ 4), (1, u "java/lang/Enum"), (0, u "name"), (0, u "Ljava/lang/String;"), (2, u "ordinal"), (0, u "I"), (1, .class_ 14), (1, u "java/lang/Object"), (4, u "hash"), (86, .class_ 108), (1, u "java/lang/Enum$EnumDesc"), (2, .class_ 112), (0, u "java/lang/constant/Constable"), (0, .class_ 114), (0, u "java/lang/Comparable"), (0, .class_ 116), (0, u "java/io/Serializable")] 87

/-- java/lang/Enum -/
def k5 : Class := { plain "java/lang/Enum" (some 0) with
  accessFlags := 1057
  interfaces := #[2, 3, 4]
  cf := some (fileOf pool5 2 #[.nestMembers #[106]] #[] 1057 12 #[111, 113, 115] #[{ accessFlags := 18, nameIndex := 5, descriptorIndex := 6, attributes := #[] }, { accessFlags := 18, nameIndex := 9, descriptorIndex := 10, attributes := #[] }, { accessFlags := 2, nameIndex := 19, descriptorIndex := 10, attributes := #[] }])
  fields := #[{ name := "name", type := (.object "java/lang/String"), accessFlags := 18, slot := 0, constantValue := 0 }, { name := "ordinal", type := .int, accessFlags := 18, slot := 1, constantValue := 0 }, { name := "hash", type := .int, accessFlags := 2, slot := 2, constantValue := 0 }]
  methods := #[]
  instanceTypes := #[(.object "java/lang/String"), .int, .int]
  staticTypes := #[]
  resolved := Array.replicate 204 none
  statics := none }

def pool6 : Array CpInfo := pool [(1, .class_ 2), (0, u "com/example/mullion/mullion/policy/WindowFamily"), (2, u "APPLICATION"), (0, u "Lcom/example/mullion/mullion/policy/WindowFamily;"), (2, u "SUB_WINDOW"), (2, u "SYSTEM"), (2, u "$VALUES"), (0, u "[Lcom/example/mullion/mullion/policy/WindowFamily;"), (6, .class_ 25), (1, u "java/lang/Enum"), (6, .fieldref 1 33), (0, .nameAndType 34 35), (0, u "first"), (0, u "I"), (0, .fieldref 1 37), (0, .nameAndType 38 35), (0, u "last"), (2, u "ALL"), (2, u "contains"), (0, u "(I)Z")] 37

def k6c0 : Code := { maxStack := 2, maxLocals := 2, code := prog_37_method_5_code, exceptionTable := #[], attributes := #[] }
def k6m0 : Method := { name := "contains", desc := "(I)Z", sig := { parameters := [.int], returnType := some .boolean }, accessFlags := 1, code := some k6c0 }
/-- com/example/mullion/mullion/policy/WindowFamily -/
def k6 : Class := { plain "com/example/mullion/mullion/policy/WindowFamily" (some 5) with
  accessFlags := 16433
  interfaces := #[]
  cf := some (fileOf pool6 1 #[] #[{ accessFlags := 1, nameIndex := 44, descriptorIndex := 45, attributes := #[] }] 16433 23 #[] #[{ accessFlags := 16409, nameIndex := 5, descriptorIndex := 6, attributes := #[] }, { accessFlags := 16409, nameIndex := 9, descriptorIndex := 6, attributes := #[] }, { accessFlags := 16409, nameIndex := 12, descriptorIndex := 6, attributes := #[] }, { accessFlags := 26, nameIndex := 41, descriptorIndex := 16, attributes := #[] }, { accessFlags := 18, nameIndex := 34, descriptorIndex := 35, attributes := #[] }, { accessFlags := 18, nameIndex := 38, descriptorIndex := 35, attributes := #[] }, { accessFlags := 4122, nameIndex := 15, descriptorIndex := 16, attributes := #[] }])
  fields := #[{ name := "APPLICATION", type := (.object "com/example/mullion/mullion/policy/WindowFamily"), accessFlags := 16409, slot := 0, constantValue := 0 }, { name := "SUB_WINDOW", type := (.object "com/example/mullion/mullion/policy/WindowFamily"), accessFlags := 16409, slot := 1, constantValue := 0 }, { name := "SYSTEM", type := (.object "com/example/mullion/mullion/policy/WindowFamily"), accessFlags := 16409, slot := 2, constantValue := 0 }, { name := "ALL", type := (.array (.object "com/example/mullion/mullion/policy/WindowFamily")), accessFlags := 26, slot := 3, constantValue := 0 }, { name := "first", type := .int, accessFlags := 18, slot := 3, constantValue := 0 }, { name := "last", type := .int, accessFlags := 18, slot := 4, constantValue := 0 }, { name := "$VALUES", type := (.array (.object "com/example/mullion/mullion/policy/WindowFamily")), accessFlags := 4122, slot := 4, constantValue := 0 }]
  methods := #[k6m0]
  instanceTypes := #[(.object "java/lang/String"), .int, .int, .int, .int]
  staticTypes := #[(.object "com/example/mullion/mullion/policy/WindowFamily"), (.object "com/example/mullion/mullion/policy/WindowFamily"), (.object "com/example/mullion/mullion/policy/WindowFamily"), (.array (.object "com/example/mullion/mullion/policy/WindowFamily")), (.array (.object "com/example/mullion/mullion/policy/WindowFamily"))]
  resolved := Array.replicate 83 none
  statics := some 0 }

def pool7 : Array CpInfo := pool [(1, u "java/lang/Cloneable"), (0, .class_ 1), (0, u "java/lang/Object"), (0, .class_ 3)] 3

/-- java/lang/Cloneable -/
def k7 : Class := { plain "java/lang/Cloneable" (some 0) with
  accessFlags := 1537
  interfaces := #[]
  cf := some (fileOf pool7 2 #[] #[] 1537 4 #[] #[])
  fields := #[]
  methods := #[]
  instanceTypes := #[]
  staticTypes := #[]
  resolved := Array.replicate 8 none
  statics := none }

/-- the primitive byte -/
def k8 : Class := { plain "byte" none with kind := .primitive 'B', accessFlags := 0x411 }
/-- [B -/
def k9 : Class := { plain "[B" (some 0) with kind := .array 8 .byte, interfaces := #[7, 4], accessFlags := 1041 }

/-- the primitive int -/
def k10 : Class := { plain "int" none with kind := .primitive 'I', accessFlags := 0x411 }
/-- [I -/
def k11 : Class := { plain "[I" (some 0) with kind := .array 10 .int, interfaces := #[7, 4], accessFlags := 1041 }

def heap : Heap := #[{ cls := 6, slots := #[.ref 1, .ref 2, .ref 3, .null, .null], vm := .statics 6 },
  { cls := 6, slots := #[.null, .int 0, .int 0, .int 1, .int 99], vm := .none },
  { cls := 6, slots := #[.null, .int 1, .int 0, .int 1000, .int 1999], vm := .none },
  { cls := 6, slots := #[.null, .int 2, .int 0, .int 2000, .int 2999], vm := .none }]
def classes : Array Class := #[k0, k1, k2, k3, k4, k5, k6, k7, k8, k9, k10, k11]
def interned : List (Array UInt16 × Addr) := []
def slotsUsed : Nat := 20
def theMethod : MethodId := ⟨1, 1⟩
def args0 : Array Value := #[.int 1, .int 2, .int 3]
def aboutOver (below : List Frame) : State where
  vm := { classes := classes, interned := interned.toArray }
  heap := heap
  slotsUsed := slotsUsed
  threads := #[{ frames := .invoking theMethod args0 :: below }]
def below0 : List Frame := [.native { method := ⟨0, 0⟩, args := #[] }]
def about1 : State := aboutOver below0
def p0 : Program := .bare "" "" ""
def e0 : Env := launch0.env 0 0 0
theorem w_frames : about1.frames = Frame.invoking theMethod args0 :: below0 := rfl
set_option maxRecDepth 65536 in
theorem w_args : argsFit about1.vm theMethod args0 = true := by decide +kernel
set_option maxRecDepth 65536 in
theorem w_heap : heapFits about1 = true := by decide +kernel
set_option maxRecDepth 65536 in
theorem w_runnable : about1.curStatus? = some .runnable := by decide +kernel
set_option maxRecDepth 65536 in
theorem w_alone : about1.alone = true := by decide +kernel
set_option maxRecDepth 65536 in
theorem w_named : about1.methodNamed? x = some theMethod := by decide +kernel
set_option maxRecDepth 65536 in
theorem w_hears : about1.hears theMethod below0 = true := by decide +kernel
set_option maxRecDepth 65536 in
theorem w_ripe : about1.ripe theMethod args0 below0 = true := by decide +kernel
theorem w_running : about1.status = .running := rfl
set_option maxRecDepth 65536 in
theorem w_room : about1.hasRoom e0.platform room_1 = true :=
  launch0.hasRoom_least _ room_1 (by decide +kernel) (by decide +kernel) (by decide +kernel) (by decide +kernel) (by decide +kernel) (by decide +kernel)
theorem allAtoms_all (ts : List Jvm.Cond) (a : Array Jvm.Value) (st : Jvm.State) : (allAtoms ts).before a st = ts.all (fun c => c.before a st) := by
  induction ts with
  | nil => rfl
  | cons c t ih =>
    show (Jvm.Cond.and c (allAtoms t)).before a st = _
    rw [Jvm.Cond.before_and, ih, List.all_cons]
def words1 : List Jvm.Cond := Jvm.Cond.code x code maxLocals ret :: tables_1
/-- a 'code' word, met by the world's own term for the bytes: nothing is compared byte by byte -/
theorem code_word {y : MethodName} {bytes : ByteArray} {mx : Nat} {rt : Option FieldType} {a : Array Value} {s : State} {m : MethodId} {meth : Method} {c : Code} (h1 : s.methodNamed? y = some m) (h2 : s.vm.method? m = some meth) (h3 : meth.code = some c) (h4 : c.code = bytes)
    (h5 : (c.maxLocals == mx && c.exceptionTable.isEmpty && decide (c.maxStack ≤ mostOperands) && decide (meth.sig.returnType = rt) && !meth.locks && decide (parseMethodDescriptor y.desc = some meth.sig)) = true) : (Jvm.Cond.code y bytes mx rt).before a s = true := by
  simp only [Bool.and_eq_true, beq_iff_eq, Bool.not_eq_true', decide_eq_true_eq] at h5
  obtain ⟨⟨⟨⟨⟨g1, g2⟩, g3⟩, g4⟩, g5⟩, g6⟩ := h5
  simp [Cond.before, Cond.holds, Cond.value, h1, h2, h3, h4, g1, g2, g3, g4, g5, g6]
def isCode : Jvm.Cond → Bool
  | .code _ _ _ _ => true
  | _ => false
theorem all_split {L : List Jvm.Cond} {P : Jvm.Cond → Bool} (h1 : L.all (fun c => isCode c || P c) = true) (h2 : ∀ c ∈ L.filter isCode, P c = true) : L.all P = true := by
  refine List.all_eq_true.mpr fun c hc => ?_
  have h := List.all_eq_true.mp h1 c hc
  rcases Bool.eq_false_or_eq_true (isCode c) with hi | hi
  · exact h2 c (List.mem_filter.mpr ⟨hc, hi⟩)
  · simpa [hi] using h
set_option maxRecDepth 65536 in
theorem w_c0 : (Jvm.Cond.code x code maxLocals ret).before args0 about1 = true := code_word (m := ⟨1, 1⟩) (meth := k1m1) (c := k1c1) (by decide +kernel) rfl rfl rfl (by decide +kernel)
set_option maxRecDepth 65536 in
theorem w_c1 : (Jvm.Cond.code ({ cls := "com/example/mullion/mullion/policy/WindowFamily", name := "contains", desc := "(I)Z" } : Jvm.MethodName) prog_37_method_5_code (2 : Nat) (Option.some Jvm.ClassFile.FieldType.boolean)).before args0 about1 = true := code_word (m := ⟨6, 0⟩) (meth := k6m0) (c := k6c0) (by decide +kernel) rfl rfl rfl (by decide +kernel)
set_option maxRecDepth 65536 in
theorem w_c2 : (Jvm.Cond.code ({ cls := "com/example/mullion/mullion/policy/WindowFamilyContainsPinLaw", name := "inRange", desc := "(III)Z" } : Jvm.MethodName) method_3_code (7 : Nat) (Option.some Jvm.ClassFile.FieldType.boolean)).before args0 about1 = true := code_word (m := ⟨1, 2⟩) (meth := k1m2) (c := k1c2) (by decide +kernel) rfl rfl rfl (by decide +kernel)
def codes1 : List Jvm.Cond := [Jvm.Cond.code x code maxLocals ret, Jvm.Cond.code ({ cls := "com/example/mullion/mullion/policy/WindowFamily", name := "contains", desc := "(I)Z" } : Jvm.MethodName) prog_37_method_5_code (2 : Nat) (Option.some Jvm.ClassFile.FieldType.boolean), Jvm.Cond.code ({ cls := "com/example/mullion/mullion/policy/WindowFamilyContainsPinLaw", name := "inRange", desc := "(III)Z" } : Jvm.MethodName) method_3_code (7 : Nat) (Option.some Jvm.ClassFile.FieldType.boolean)]
set_option maxRecDepth 65536 in
theorem codes_eq : words1.filter isCode = codes1 := rfl
theorem w_codes : ∀ c ∈ words1.filter isCode, c.before args0 about1 = true := by
  rw [codes_eq]
  intro c hc
  simp only [codes1, List.mem_cons, List.not_mem_nil, or_false] at hc
  rcases hc with rfl | rfl | rfl
  · exact w_c0
  · exact w_c1
  · exact w_c2
set_option maxRecDepth 65536 in
theorem w_t1 : words1.all (fun c => isCode c || c.before args0 about1) = true := by decide +kernel
theorem w_tables : (allAtoms (Jvm.Cond.code x code maxLocals ret :: tables_1)).before args0 about1 = true := by
  rw [allAtoms_all]
  show words1.all (fun c => c.before args0 about1) = true
  refine all_split ?_ w_codes
  rw [w_t1]
set_option maxRecDepth 65536 in
theorem w_case : (Jvm.Cond.and given_1 narrow_1).before args0 about1 = true := by decide +kernel
theorem w_applies : (headSpec (Jvm.Cond.code x code maxLocals ret :: tables_1) room_1).applies x e0.platform about1 = true :=
  (Spec.applies_iff w_frames).mpr ⟨w_running, w_runnable, w_alone, w_named, w_hears, w_ripe, w_room, w_tables⟩
theorem atStart : AtStart classFile x code maxLocals ret World_1 tables_1 room_1 Calls_1 rest_1 Pre_1 launch0 p0 e0 about1 theMethod args0 below0 :=
  ⟨lists_1, trivial, launch0.admits_env _ _ _, launch0.least_env, fairChoices_fair.cas, fairChoices_fair.clock, w_frames, w_args, w_heap, w_applies, trivial, trivial, w_case⟩
end start1
theorem witness_1 : WitnessClaimed_1 := ⟨start1.p0, start1.e0, start1.about1, start1.theMethod, start1.args0, start1.below0, start1.atStart⟩
end Jvm.Pilot.@@N@@
