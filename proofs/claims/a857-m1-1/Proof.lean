import JvmDerived
import JvmDerived.Pilot.@@N@@Statement
import JvmDerived.Pilot.@@N@@Code
set_option linter.unusedVariables false
set_option linter.unusedSimpArgs false
set_option maxRecDepth 65536
namespace Jvm.Pilot.@@N@@
open Jvm Jvm.ClassFile Sem Op Lib Jvm.Free Jvm.Stand Jvm.LawKit Jvm.RoadKit Bundle Jvm.Pilot.@@N@@.Jvm.D
section OwnKit
variable {p : Program} {l : Launch} {e : Env} {R : Room} {s : State} {m : MethodId} {args : Array Value} {below : List Frame} {meth : Method} {c : Code} {T : State} {locs : List Loc} {cells slots : Nat}
theorem own_retI (X : Stand p l e R s m args below meth c T locs cells slots) (hx : p.tables.exec = Jvm.exec) {pc : Nat} {Ls : Array Slot} {z : Int32} {rest : List Value} (hret : meth.sig.returnType = some .int) (hd : decode c.code pc = .ok (.ireturn, 1)) {fs : List Frame}
    (hl : ∀ (f : JFrame) (acts : List Action), f.method = m → f.locked = none → f.entered = [] → (doReturn e (T.setTop f) acts (some (.int z))).1 = T.setFrames fs) : Steps p.tables e below (T.setTop (mkF m pc Ls (.int z :: rest))) (T.setFrames fs) := by
  have hm' : T.vm.method? m = some meth := X.method'
  have hn : narrow .int (.int z) = .int z := rfl
  show Steps p.tables e below (T.setTop { method := m, pc := pc, locals := Ls, stack := _ :: rest, locked := none }) _
  jvm_step X.here [X.here.top, hx, hd, hm', hret, hn]
  first | (intro acts; rw [hl _ acts rfl rfl rfl]) | rw [hl _ _ rfl rfl rfl]
  exact Steps.refl _
/-- where the run stands, with the same writes and figures as at X -/
abbrev own_like (_ : Stand p l e R s m args below meth c T locs cells slots) (T' : State) : Prop := Stand p l e R s m args below meth c T' locs cells slots
end OwnKit
theorem own_Llt {a b : Int64} (h : a < b) : ifCond.holds .lt (lcmpW a b) = true ∧ ifCond.holds .ge (lcmpW a b) = false ∧ ifCond.holds .gt (lcmpW b a) = true ∧ ifCond.holds .le (lcmpW b a) = false := by
  simp only [if0]
  exact ⟨(tlt ((lw_lt a b).mpr h)).1, (tlt ((lw_lt a b).mpr h)).2.1, (tlt ((lw_gt b a).mpr h)).2.2.1, (tlt ((lw_gt b a).mpr h)).2.2.2⟩
theorem own_Lnl {a b : Int64} (h : ¬ a < b) : ifCond.holds .lt (lcmpW a b) = false ∧ ifCond.holds .ge (lcmpW a b) = true ∧ ifCond.holds .gt (lcmpW b a) = false ∧ ifCond.holds .le (lcmpW b a) = true := by
  simp only [if0]
  have h1 : ¬ lcmpW a b < 0 := fun q => h ((lw_lt a b).mp q)
  have h2 : ¬ 0 < lcmpW b a := fun q => h ((lw_gt b a).mp q)
  exact ⟨(flt h1).1, (flt h1).2.1, (flt h2).2.2.1, (flt h2).2.2.2⟩
theorem own_Leq {a b : Int64} (h : a = b) : ifCond.holds .eq (lcmpW a b) = true ∧ ifCond.holds .ne (lcmpW a b) = false := by
  simp only [if0]
  exact teq ((lw_eq a b).mpr h)
theorem own_Lne {a b : Int64} (h : ¬ a = b) : ifCond.holds .eq (lcmpW a b) = false ∧ ifCond.holds .ne (lcmpW a b) = true := by
  simp only [if0]
  exact feq fun q => h ((lw_eq a b).mp q)
theorem own_StaK {Z : State} {h h' : Heap} {C n d : String} {v : Value} {ws : List Addr} (F : Sta Z h C n d v) (K : Keep h h' ws) (q : ∀ x ∈ ws, ∃ c : Cell, h[x]? = some c ∧ c.vm.isStatics = false) : Sta Z h' C n d v := by
  obtain ⟨cf, i, k, f, st, cell, h1, h2, h3, h4, h5, h6, h7⟩ := F
  refine ⟨cf, i, k, f, st, cell, h1, h2, h3, h4, K.2.1 st cell h5 (fun hm => ?_), h6, h7⟩
  obtain ⟨c, e1, e2⟩ := q _ hm
  rw [h5] at e1
  cases e1
  rw [h6] at e2
  cases e2
theorem own_ExaS {Z : State} {h : Heap} {a : Addr} {C : String} (E : Exa Z h a C) : ∃ c : Cell, h[a]? = some c ∧ c.vm.isStatics = false := by
  obtain ⟨c, k, e1, -, -, e2, -⟩ := E
  exact ⟨c, e1, e2⟩
/-- a boolean as the JVM's int -/
def own_b (b : Bool) : Int32 := if b then 1 else 0
theorem own_b_t : own_b true = 1 := rfl
theorem own_b_f : own_b false = 0 := rfl
theorem own_b0 {b : Bool} : own_b b = 0 ↔ b = false := by cases b <;> decide
theorem own_b_inj {b c : Bool} : own_b b = own_b c ↔ b = c := by cases b <;> cases c <;> decide
theorem own_leafT {b : Bool} (h : b = true) : (some (.int (nar .boolean (1 : Int32))) : Option Value) = some (.int (own_b b)) := by subst h; rfl
theorem own_leafF {b : Bool} (h : b = false) : (some (.int (nar .boolean (0 : Int32))) : Option Value) = some (.int (own_b b)) := by subst h; rfl
theorem own_bt {b : Bool} (h : b = true) : (1 : Int32) = own_b b := by subst h; rfl
theorem own_bf {b : Bool} (h : b = false) : (0 : Int32) = own_b b := by subst h; rfl
theorem own_b_nar (b : Bool) : nar .boolean (own_b b) = own_b b := by cases b <;> rfl
def own_sl (t : Int32) : Int32 := if t = (1000 : Int32) then 1 else if t = (1001 : Int32) then -2 else if t = (1002 : Int32) then 2 else if t = (1003 : Int32) then 1 else if t = (1004 : Int32) then -1 else if t = (1005 : Int32) then 3 else 0
theorem own_sl_out {t : Int32} (h : t < (1000 : Int32) ∨ (1005 : Int32) < t) : own_sl t = (0 : Int32) := by
  have k : ∀ i : Int32, ¬ i < (1000 : Int32) → ¬ (1005 : Int32) < i → ¬ t = i := fun i q1 q2 e => by subst e; rcases h with h | h; exact q1 h; exact q2 h
  simp [own_sl, k (1000 : Int32) (by decide) (by decide), k (1001 : Int32) (by decide) (by decide), k (1002 : Int32) (by decide) (by decide), k (1003 : Int32) (by decide) (by decide), k (1004 : Int32) (by decide) (by decide), k (1005 : Int32) (by decide) (by decide)]
theorem own_six {t : Int32} (h1 : ¬ t < (1000 : Int32)) (h2 : ¬ (1005 : Int32) < t) : t = (1000 : Int32) ∨ t = (1001 : Int32) ∨ t = (1002 : Int32) ∨ t = (1003 : Int32) ∨ t = (1004 : Int32) ∨ t = (1005 : Int32) := by
  rw [Int32.lt_iff_toInt_lt] at h1 h2
  have a : (1000 : Int32).toInt = 1000 := rfl
  have b : (1005 : Int32).toInt = 1005 := rfl
  rw [a] at h1
  rw [b] at h2
  have j : ∀ i : Int32, t.toInt = i.toInt → t = i := fun i q => Int32.toInt_inj.mp q
  have z : t.toInt = 1000 ∨ t.toInt = 1001 ∨ t.toInt = 1002 ∨ t.toInt = 1003 ∨ t.toInt = 1004 ∨ t.toInt = 1005 := by omega
  rcases z with z | z | z | z | z | z
  · exact Or.inl (j _ (z.trans rfl))
  · exact Or.inr (Or.inl (j _ (z.trans rfl)))
  · exact Or.inr (Or.inr (Or.inl (j _ (z.trans rfl))))
  · exact Or.inr (Or.inr (Or.inr (Or.inl (j _ (z.trans rfl)))))
  · exact Or.inr (Or.inr (Or.inr (Or.inr (Or.inl (j _ (z.trans rfl))))))
  · exact Or.inr (Or.inr (Or.inr (Or.inr (Or.inr (j _ (z.trans rfl))))))
theorem own_sl_in {t : Int32} (h1 : ¬ t < (1000 : Int32)) (h2 : ¬ (1005 : Int32) < t) : ¬ own_sl t < (-2 : Int32) ∧ ¬ (3 : Int32) < own_sl t ∧ ¬ own_sl t = (0 : Int32) := by
  rcases own_six h1 h2 with rfl | rfl | rfl | rfl | rfl | rfl <;> decide
theorem own_d2_0 : decode prog_36_method_3_code 0 = .ok (.iload_n 0, 1) := by decide +kernel
theorem own_d2_1 : decode prog_36_method_3_code 1 = .ok (.tableswitch 64 1000 1005 #[39, 43, 48, 52, 56, 60], 39) := by decide +kernel
theorem own_d2_40 : decode prog_36_method_3_code 40 = .ok (.iconst 1, 1) := by decide +kernel
theorem own_d2_41 : decode prog_36_method_3_code 41 = .ok (.goto 25, 3) := by decide +kernel
theorem own_d2_44 : decode prog_36_method_3_code 44 = .ok (.bipush (-2), 2) := by decide +kernel
theorem own_d2_46 : decode prog_36_method_3_code 46 = .ok (.goto 20, 3) := by decide +kernel
theorem own_d2_49 : decode prog_36_method_3_code 49 = .ok (.iconst 2, 1) := by decide +kernel
theorem own_d2_50 : decode prog_36_method_3_code 50 = .ok (.goto 16, 3) := by decide +kernel
theorem own_d2_53 : decode prog_36_method_3_code 53 = .ok (.iconst 1, 1) := by decide +kernel
theorem own_d2_54 : decode prog_36_method_3_code 54 = .ok (.goto 12, 3) := by decide +kernel
theorem own_d2_57 : decode prog_36_method_3_code 57 = .ok (.iconst (-1), 1) := by decide +kernel
theorem own_d2_58 : decode prog_36_method_3_code 58 = .ok (.goto 8, 3) := by decide +kernel
theorem own_d2_61 : decode prog_36_method_3_code 61 = .ok (.iconst 3, 1) := by decide +kernel
theorem own_d2_62 : decode prog_36_method_3_code 62 = .ok (.goto 4, 3) := by decide +kernel
theorem own_d2_65 : decode prog_36_method_3_code 65 = .ok (.iconst 0, 1) := by decide +kernel
theorem own_d2_66 : decode prog_36_method_3_code 66 = .ok (.ireturn, 1) := by decide +kernel
theorem own_ef2 (m : MethodId) (x0 : Int32) : entryFrame m #[(.int x0)] 1 = mkF m 0 #[.val (.int x0)] [] := by first | (simp [entryFrame, mkF, argsToLocals, Value.category]; done) | rfl
def own_Q2 (Z : State) (ty : Int32) (h0 : Heap) (n0 : Nat) (v : Option Value) (h : Heap) (L : List Loc) : Prop := v = some (.int (own_sl ty)) ∧ L = [] ∧ h = h0
theorem own_pn0 : plainName "com/example/mullion/mullion/policy/Layers" = true := by first | (simp [plainName, overriddenIn]; done) | decide +kernel
set_option maxHeartbeats 40000000 in
theorem own_rm2 (l : Launch) (Z : State) (a0 : Array Value) (hw : ∀ d ∈ tables_1, d.before a0 Z = true) (ws : List Jvm.Cond) (ty : Int32) (h0 : Heap) (n0 : Nat) (Z0 : n0 ≤ h0.size) :
    MetFree l (⟨"com/example/mullion/mullion/policy/Layers", "subLayerOfType", "(I)I"⟩ : MethodName) (head1 (Jvm.Cond.code (⟨"com/example/mullion/mullion/policy/Layers", "subLayerOfType", "(I)I"⟩ : MethodName) prog_36_method_3_code 1 (some .int) :: ws) ({ frames := 0, cells := 0, slots := 0, locals := 0 } : Room)) (fun a U => a = #[(.int ty)] ∧ Z.Warmed39 U.vm ∧ U.heap = h0) (fun _ _ _ _ _ => True) (fun _ U o U' => ∃ v L, o = .returned v ∧ own_Q2 Z ty h0 n0 v U'.heap L ∧ FrameEnd U o U' L ({ frames := 0, cells := 0, slots := 0, locals := 0 } : Room).cells ({ frames := 0, cells := 0, slots := 0, locals := 0 } : Room).slots) := by
  refine MetFree.of_bodySF (plainFor_of_name own_pn0) hisR ?_
  intro p e s m args below meth c s₁ Bd hml0 hP hK
  obtain ⟨rfl, hZ, hh⟩ := hP
  have hx := Bd.exec
  have hby := Bd.bytes
  have hml : c.maxLocals = 1 := hml0
  have hown : s.vm.findClass "com/example/mullion/mullion/policy/Layers" = some m.cls := findClass_of_methodNamed Bd.named
  have hnm := (name_of_methodNamed Bd.named Bd.method).1
  have X0 : Stand p l e ({ frames := 0, cells := 0, slots := 0, locals := 0 } : Room) s m #[(.int ty)] below meth c s₁ [] 0 0 := Stand.of_body Bd
  have e0 : s₁.heap = h0 := by rw [← hh, Bd.state]; rfl
  have N0 := Fr.nil n0
  have pre0 : ∀ t, Steps p.tables e below (s₁.setTop (mkF m 0 #[.val (.int ty)] [])) t → Steps p.tables e below (s₁.setTop (entryFrame m #[(.int ty)] 1)) t := fun t k => castTop (own_ef2 m ty) k
  have S1 : ∀ t, Steps p.tables e below (s₁.setTop (mkF m 1 #[.val (.int ty)] [(.int ty)])) t → Steps p.tables e below (s₁.setTop (entryFrame m #[(.int ty)] 1)) t := fun t kt => by
    refine pre0 t ?_
    show Steps p.tables e below (s₁.setTop (mkF m 0 #[.val (.int ty)] [])) t
    refine XS.iloadN X0.here hx rfl (hb hby own_d2_0) rfl ?_
    exact kt
  by_cases hsw1_1000 : ty = (1000 : Int32)
  · skip
    have S2 : ∀ t, Steps p.tables e below (s₁.setTop (mkF m 66 #[.val (.int ty)] [(.int (1 : Int32))])) t → Steps p.tables e below (s₁.setTop (entryFrame m #[(.int ty)] 1)) t := fun t kt => by
      refine S1 t ?_
      show Steps p.tables e below (s₁.setTop (mkF m 1 #[.val (.int ty)] [(.int ty)])) t
      refine XS.tswIn X0.here hx rfl (pc0 := 1) (pc' := 40) rfl (hb hby own_d2_1) rfl (by rw [hsw1_1000]; decide) (o := 39) (by rw [hsw1_1000]; decide) (by decide) (by decide) ?_
      show Steps p.tables e below (s₁.setTop (mkF m 40 #[.val (.int ty)] [])) t
      refine XS.iconst X0.here hx rfl (hb hby own_d2_40) ?_
      show Steps p.tables e below (s₁.setTop (mkF m 41 #[.val (.int ty)] [(.int (1 : Int32))])) t
      refine XS.goto X0.here hx rfl (pc0 := 41) (pc' := 66) rfl (hb hby own_d2_41) (by decide) (by decide) ?_
      exact kt
    obtain ⟨fs, hr, hrun, hended, hW, hsame⟩ := X0.leave (v := some (.int (1 : Int32))) (fun h => by rw [Bd.returns] at h; cases h)
    refine ⟨_, _, S2 _ ?_, hrun, hended, _, _, rfl, ?_, ⟨_, rfl⟩, hW, hsame.mono (by decide) (by decide)⟩
    · show Steps p.tables e below (s₁.setTop (mkF m 66 #[.val (.int ty)] [(.int (1 : Int32))])) _
      exact own_retI X0 hx Bd.returns (hb hby own_d2_66) hr
    · show own_Q2 Z ty h0 n0 _ s₁.heap _
      rw [e0]
      exact ⟨by rw [hsw1_1000]; rfl, rfl, rfl⟩
  by_cases hsw1_1001 : ty = (1001 : Int32)
  · skip
    have S3 : ∀ t, Steps p.tables e below (s₁.setTop (mkF m 66 #[.val (.int ty)] [(.int (-2 : Int32))])) t → Steps p.tables e below (s₁.setTop (entryFrame m #[(.int ty)] 1)) t := fun t kt => by
      refine S1 t ?_
      show Steps p.tables e below (s₁.setTop (mkF m 1 #[.val (.int ty)] [(.int ty)])) t
      refine XS.tswIn X0.here hx rfl (pc0 := 1) (pc' := 44) rfl (hb hby own_d2_1) rfl (by rw [hsw1_1001]; decide) (o := 43) (by rw [hsw1_1001]; decide) (by decide) (by decide) ?_
      show Steps p.tables e below (s₁.setTop (mkF m 44 #[.val (.int ty)] [])) t
      refine XS.bipush X0.here hx rfl (hb hby own_d2_44) ?_
      show Steps p.tables e below (s₁.setTop (mkF m 46 #[.val (.int ty)] [(.int (-2 : Int32))])) t
      refine XS.goto X0.here hx rfl (pc0 := 46) (pc' := 66) rfl (hb hby own_d2_46) (by decide) (by decide) ?_
      exact kt
    obtain ⟨fs, hr, hrun, hended, hW, hsame⟩ := X0.leave (v := some (.int (-2 : Int32))) (fun h => by rw [Bd.returns] at h; cases h)
    refine ⟨_, _, S3 _ ?_, hrun, hended, _, _, rfl, ?_, ⟨_, rfl⟩, hW, hsame.mono (by decide) (by decide)⟩
    · show Steps p.tables e below (s₁.setTop (mkF m 66 #[.val (.int ty)] [(.int (-2 : Int32))])) _
      exact own_retI X0 hx Bd.returns (hb hby own_d2_66) hr
    · show own_Q2 Z ty h0 n0 _ s₁.heap _
      rw [e0]
      exact ⟨by rw [hsw1_1001]; rfl, rfl, rfl⟩
  by_cases hsw1_1002 : ty = (1002 : Int32)
  · skip
    have S4 : ∀ t, Steps p.tables e below (s₁.setTop (mkF m 66 #[.val (.int ty)] [(.int (2 : Int32))])) t → Steps p.tables e below (s₁.setTop (entryFrame m #[(.int ty)] 1)) t := fun t kt => by
      refine S1 t ?_
      show Steps p.tables e below (s₁.setTop (mkF m 1 #[.val (.int ty)] [(.int ty)])) t
      refine XS.tswIn X0.here hx rfl (pc0 := 1) (pc' := 49) rfl (hb hby own_d2_1) rfl (by rw [hsw1_1002]; decide) (o := 48) (by rw [hsw1_1002]; decide) (by decide) (by decide) ?_
      show Steps p.tables e below (s₁.setTop (mkF m 49 #[.val (.int ty)] [])) t
      refine XS.iconst X0.here hx rfl (hb hby own_d2_49) ?_
      show Steps p.tables e below (s₁.setTop (mkF m 50 #[.val (.int ty)] [(.int (2 : Int32))])) t
      refine XS.goto X0.here hx rfl (pc0 := 50) (pc' := 66) rfl (hb hby own_d2_50) (by decide) (by decide) ?_
      exact kt
    obtain ⟨fs, hr, hrun, hended, hW, hsame⟩ := X0.leave (v := some (.int (2 : Int32))) (fun h => by rw [Bd.returns] at h; cases h)
    refine ⟨_, _, S4 _ ?_, hrun, hended, _, _, rfl, ?_, ⟨_, rfl⟩, hW, hsame.mono (by decide) (by decide)⟩
    · show Steps p.tables e below (s₁.setTop (mkF m 66 #[.val (.int ty)] [(.int (2 : Int32))])) _
      exact own_retI X0 hx Bd.returns (hb hby own_d2_66) hr
    · show own_Q2 Z ty h0 n0 _ s₁.heap _
      rw [e0]
      exact ⟨by rw [hsw1_1002]; rfl, rfl, rfl⟩
  by_cases hsw1_1003 : ty = (1003 : Int32)
  · skip
    have S5 : ∀ t, Steps p.tables e below (s₁.setTop (mkF m 66 #[.val (.int ty)] [(.int (1 : Int32))])) t → Steps p.tables e below (s₁.setTop (entryFrame m #[(.int ty)] 1)) t := fun t kt => by
      refine S1 t ?_
      show Steps p.tables e below (s₁.setTop (mkF m 1 #[.val (.int ty)] [(.int ty)])) t
      refine XS.tswIn X0.here hx rfl (pc0 := 1) (pc' := 53) rfl (hb hby own_d2_1) rfl (by rw [hsw1_1003]; decide) (o := 52) (by rw [hsw1_1003]; decide) (by decide) (by decide) ?_
      show Steps p.tables e below (s₁.setTop (mkF m 53 #[.val (.int ty)] [])) t
      refine XS.iconst X0.here hx rfl (hb hby own_d2_53) ?_
      show Steps p.tables e below (s₁.setTop (mkF m 54 #[.val (.int ty)] [(.int (1 : Int32))])) t
      refine XS.goto X0.here hx rfl (pc0 := 54) (pc' := 66) rfl (hb hby own_d2_54) (by decide) (by decide) ?_
      exact kt
    obtain ⟨fs, hr, hrun, hended, hW, hsame⟩ := X0.leave (v := some (.int (1 : Int32))) (fun h => by rw [Bd.returns] at h; cases h)
    refine ⟨_, _, S5 _ ?_, hrun, hended, _, _, rfl, ?_, ⟨_, rfl⟩, hW, hsame.mono (by decide) (by decide)⟩
    · show Steps p.tables e below (s₁.setTop (mkF m 66 #[.val (.int ty)] [(.int (1 : Int32))])) _
      exact own_retI X0 hx Bd.returns (hb hby own_d2_66) hr
    · show own_Q2 Z ty h0 n0 _ s₁.heap _
      rw [e0]
      exact ⟨by rw [hsw1_1003]; rfl, rfl, rfl⟩
  by_cases hsw1_1004 : ty = (1004 : Int32)
  · skip
    have S6 : ∀ t, Steps p.tables e below (s₁.setTop (mkF m 66 #[.val (.int ty)] [(.int (-1 : Int32))])) t → Steps p.tables e below (s₁.setTop (entryFrame m #[(.int ty)] 1)) t := fun t kt => by
      refine S1 t ?_
      show Steps p.tables e below (s₁.setTop (mkF m 1 #[.val (.int ty)] [(.int ty)])) t
      refine XS.tswIn X0.here hx rfl (pc0 := 1) (pc' := 57) rfl (hb hby own_d2_1) rfl (by rw [hsw1_1004]; decide) (o := 56) (by rw [hsw1_1004]; decide) (by decide) (by decide) ?_
      show Steps p.tables e below (s₁.setTop (mkF m 57 #[.val (.int ty)] [])) t
      refine XS.iconst X0.here hx rfl (hb hby own_d2_57) ?_
      show Steps p.tables e below (s₁.setTop (mkF m 58 #[.val (.int ty)] [(.int (-1 : Int32))])) t
      refine XS.goto X0.here hx rfl (pc0 := 58) (pc' := 66) rfl (hb hby own_d2_58) (by decide) (by decide) ?_
      exact kt
    obtain ⟨fs, hr, hrun, hended, hW, hsame⟩ := X0.leave (v := some (.int (-1 : Int32))) (fun h => by rw [Bd.returns] at h; cases h)
    refine ⟨_, _, S6 _ ?_, hrun, hended, _, _, rfl, ?_, ⟨_, rfl⟩, hW, hsame.mono (by decide) (by decide)⟩
    · show Steps p.tables e below (s₁.setTop (mkF m 66 #[.val (.int ty)] [(.int (-1 : Int32))])) _
      exact own_retI X0 hx Bd.returns (hb hby own_d2_66) hr
    · show own_Q2 Z ty h0 n0 _ s₁.heap _
      rw [e0]
      exact ⟨by rw [hsw1_1004]; rfl, rfl, rfl⟩
  by_cases hsw1_1005 : ty = (1005 : Int32)
  · skip
    have S7 : ∀ t, Steps p.tables e below (s₁.setTop (mkF m 66 #[.val (.int ty)] [(.int (3 : Int32))])) t → Steps p.tables e below (s₁.setTop (entryFrame m #[(.int ty)] 1)) t := fun t kt => by
      refine S1 t ?_
      show Steps p.tables e below (s₁.setTop (mkF m 1 #[.val (.int ty)] [(.int ty)])) t
      refine XS.tswIn X0.here hx rfl (pc0 := 1) (pc' := 61) rfl (hb hby own_d2_1) rfl (by rw [hsw1_1005]; decide) (o := 60) (by rw [hsw1_1005]; decide) (by decide) (by decide) ?_
      show Steps p.tables e below (s₁.setTop (mkF m 61 #[.val (.int ty)] [])) t
      refine XS.iconst X0.here hx rfl (hb hby own_d2_61) ?_
      show Steps p.tables e below (s₁.setTop (mkF m 62 #[.val (.int ty)] [(.int (3 : Int32))])) t
      refine XS.goto X0.here hx rfl (pc0 := 62) (pc' := 66) rfl (hb hby own_d2_62) (by decide) (by decide) ?_
      exact kt
    obtain ⟨fs, hr, hrun, hended, hW, hsame⟩ := X0.leave (v := some (.int (3 : Int32))) (fun h => by rw [Bd.returns] at h; cases h)
    refine ⟨_, _, S7 _ ?_, hrun, hended, _, _, rfl, ?_, ⟨_, rfl⟩, hW, hsame.mono (by decide) (by decide)⟩
    · show Steps p.tables e below (s₁.setTop (mkF m 66 #[.val (.int ty)] [(.int (3 : Int32))])) _
      exact own_retI X0 hx Bd.returns (hb hby own_d2_66) hr
    · show own_Q2 Z ty h0 n0 _ s₁.heap _
      rw [e0]
      exact ⟨by rw [hsw1_1005]; rfl, rfl, rfl⟩
  have hout1 : (ty).toInt < 1000 ∨ (ty).toInt > 1005 := by
    have hj : ∀ k : Int32, (ty).toInt = k.toInt → ty = k := fun k q => Int32.toInt_inj.mp q
    have hj0 : ¬ (ty).toInt = 1000 := fun q => hsw1_1000 (hj (1000 : Int32) (by rw [q]; decide))
    have hj1 : ¬ (ty).toInt = 1001 := fun q => hsw1_1001 (hj (1001 : Int32) (by rw [q]; decide))
    have hj2 : ¬ (ty).toInt = 1002 := fun q => hsw1_1002 (hj (1002 : Int32) (by rw [q]; decide))
    have hj3 : ¬ (ty).toInt = 1003 := fun q => hsw1_1003 (hj (1003 : Int32) (by rw [q]; decide))
    have hj4 : ¬ (ty).toInt = 1004 := fun q => hsw1_1004 (hj (1004 : Int32) (by rw [q]; decide))
    have hj5 : ¬ (ty).toInt = 1005 := fun q => hsw1_1005 (hj (1005 : Int32) (by rw [q]; decide))
    omega
  have S8 : ∀ t, Steps p.tables e below (s₁.setTop (mkF m 66 #[.val (.int ty)] [(.int (0 : Int32))])) t → Steps p.tables e below (s₁.setTop (entryFrame m #[(.int ty)] 1)) t := fun t kt => by
    refine S1 t ?_
    show Steps p.tables e below (s₁.setTop (mkF m 1 #[.val (.int ty)] [(.int ty)])) t
    refine XS.tswOut X0.here hx rfl (pc0 := 1) (pc' := 65) rfl (hb hby own_d2_1) rfl hout1 (by decide) (by decide) ?_
    show Steps p.tables e below (s₁.setTop (mkF m 65 #[.val (.int ty)] [])) t
    refine XS.iconst X0.here hx rfl (hb hby own_d2_65) ?_
    exact kt
  obtain ⟨fs, hr, hrun, hended, hW, hsame⟩ := X0.leave (v := some (.int (0 : Int32))) (fun h => by rw [Bd.returns] at h; cases h)
  refine ⟨_, _, S8 _ ?_, hrun, hended, _, _, rfl, ?_, ⟨_, rfl⟩, hW, hsame.mono (by decide) (by decide)⟩
  · show Steps p.tables e below (s₁.setTop (mkF m 66 #[.val (.int ty)] [(.int (0 : Int32))])) _
    exact own_retI X0 hx Bd.returns (hb hby own_d2_66) hr
  · show own_Q2 Z ty h0 n0 _ s₁.heap _
    rw [e0]
    exact ⟨by simp [own_sl, hsw1_1000, hsw1_1001, hsw1_1002, hsw1_1003, hsw1_1004, hsw1_1005], rfl, rfl⟩
theorem own_pd0 : parseMethodDescriptor "(I)I" = some ⟨[.int], some .int⟩ := by decide +kernel
theorem own_d1_0 : decode method_2_code 0 = .ok (.iload_n 0, 1) := by decide +kernel
theorem own_d1_1 : decode method_2_code 1 = .ok (.invokestatic 7, 3) := by decide +kernel
theorem own_d1_4 : decode method_2_code 4 = .ok (.istore_n 1, 1) := by decide +kernel
theorem own_d1_5 : decode method_2_code 5 = .ok (.iload_n 0, 1) := by decide +kernel
theorem own_d1_6 : decode method_2_code 6 = .ok (.sipush 1000, 3) := by decide +kernel
theorem own_d1_9 : decode method_2_code 9 = .ok (.if_icmp .lt 10, 3) := by decide +kernel
theorem own_d1_12 : decode method_2_code 12 = .ok (.iload_n 0, 1) := by decide +kernel
theorem own_d1_13 : decode method_2_code 13 = .ok (.sipush 1005, 3) := by decide +kernel
theorem own_d1_16 : decode method_2_code 16 = .ok (.if_icmp .le 13, 3) := by decide +kernel
theorem own_d1_19 : decode method_2_code 19 = .ok (.iload_n 1, 1) := by decide +kernel
theorem own_d1_20 : decode method_2_code 20 = .ok (.ifCond .ne 7, 3) := by decide +kernel
theorem own_d1_23 : decode method_2_code 23 = .ok (.iconst 1, 1) := by decide +kernel
theorem own_d1_24 : decode method_2_code 24 = .ok (.goto 4, 3) := by decide +kernel
theorem own_d1_28 : decode method_2_code 28 = .ok (.ireturn, 1) := by decide +kernel
theorem own_d1_29 : decode method_2_code 29 = .ok (.iload_n 1, 1) := by decide +kernel
theorem own_d1_30 : decode method_2_code 30 = .ok (.bipush (-2), 2) := by decide +kernel
theorem own_d1_32 : decode method_2_code 32 = .ok (.if_icmp .lt 16, 3) := by decide +kernel
theorem own_d1_35 : decode method_2_code 35 = .ok (.iload_n 1, 1) := by decide +kernel
theorem own_d1_36 : decode method_2_code 36 = .ok (.iconst 3, 1) := by decide +kernel
theorem own_d1_37 : decode method_2_code 37 = .ok (.if_icmp .gt 11, 3) := by decide +kernel
theorem own_d1_40 : decode method_2_code 40 = .ok (.iload_n 1, 1) := by decide +kernel
theorem own_d1_41 : decode method_2_code 41 = .ok (.ifCond .eq 7, 3) := by decide +kernel
theorem own_d1_44 : decode method_2_code 44 = .ok (.iconst 1, 1) := by decide +kernel
theorem own_d1_45 : decode method_2_code 45 = .ok (.goto 4, 3) := by decide +kernel
theorem own_d1_49 : decode method_2_code 49 = .ok (.ireturn, 1) := by decide +kernel
theorem own_ef1 (m : MethodId) (x0 : Int32) : entryFrame m #[(.int x0)] 2 = mkF m 0 #[.val (.int x0), .unset] [] := by first | (simp [entryFrame, mkF, argsToLocals, Value.category]; done) | rfl
def own_Q1 (Z : State) (ty : Int32) (h0 : Heap) (n0 : Nat) (v : Option Value) (h : Heap) (L : List Loc) : Prop := v = some (.int (1 : Int32)) ∧ L = [] ∧ h = h0
theorem own_pn1 : plainName "com/example/mullion/mullion/policy/LayersSubLayerOfTypePinLaw" = true := by first | (simp [plainName, overriddenIn]; done) | decide +kernel
set_option maxHeartbeats 40000000 in
theorem own_rm1 (l : Launch) (Z : State) (a0 : Array Value) (hw : ∀ d ∈ tables_1, d.before a0 Z = true) (ws : List Jvm.Cond) (ty : Int32) (h0 : Heap) (n0 : Nat) (Z0 : n0 ≤ h0.size) :
    MetFree l (⟨"com/example/mullion/mullion/policy/LayersSubLayerOfTypePinLaw", "ok", "(I)Z"⟩ : MethodName) (head1 (Jvm.Cond.code (⟨"com/example/mullion/mullion/policy/LayersSubLayerOfTypePinLaw", "ok", "(I)Z"⟩ : MethodName) method_2_code 2 (some .boolean) :: ws) ({ frames := 1, cells := 0, slots := 0, locals := 12 } : Room)) (fun a U => a = #[(.int ty)] ∧ Z.Warmed39 U.vm ∧ U.heap = h0) (fun _ _ _ _ _ => True) (fun _ U o U' => ∃ v L, o = .returned v ∧ own_Q1 Z ty h0 n0 v U'.heap L ∧ FrameEnd U o U' L ({ frames := 1, cells := 0, slots := 0, locals := 12 } : Room).cells ({ frames := 1, cells := 0, slots := 0, locals := 12 } : Room).slots) := by
  refine MetFree.of_bodySF (plainFor_of_name own_pn1) hisR ?_
  intro p e s m args below meth c s₁ Bd hml0 hP hK
  obtain ⟨rfl, hZ, hh⟩ := hP
  have hx := Bd.exec
  have hby := Bd.bytes
  have hml : c.maxLocals = 2 := hml0
  have hown : s.vm.findClass "com/example/mullion/mullion/policy/LayersSubLayerOfTypePinLaw" = some m.cls := findClass_of_methodNamed Bd.named
  have hnm := (name_of_methodNamed Bd.named Bd.method).1
  have X0 : Stand p l e ({ frames := 1, cells := 0, slots := 0, locals := 12 } : Room) s m #[(.int ty)] below meth c s₁ [] 0 0 := Stand.of_body Bd
  have e0 : s₁.heap = h0 := by rw [← hh, Bd.state]; rfl
  have N0 := Fr.nil n0
  have pre0 : ∀ t, Steps p.tables e below (s₁.setTop (mkF m 0 #[.val (.int ty), .unset] [])) t → Steps p.tables e below (s₁.setTop (entryFrame m #[(.int ty)] 2)) t := fun t k => castTop (own_ef1 m ty) k
  have S2 : ∀ t, Steps p.tables e below (s₁.setTop (mkF m 1 #[.val (.int ty), .unset] [(.int ty)])) t → Steps p.tables e below (s₁.setTop (entryFrame m #[(.int ty)] 2)) t := fun t kt => by
    refine pre0 t ?_
    show Steps p.tables e below (s₁.setTop (mkF m 0 #[.val (.int ty), .unset] [])) t
    refine XS.iloadN X0.here hx rfl (hb hby own_d1_0) rfl ?_
    exact kt
  obtain ⟨_, _, ⟨T3, L3, k3, n3⟩, -, X3, ⟨Lc3, hQ3, l3, y3, z3⟩, st3⟩ := Jvm.LawKit.callS X0 hx (y := (⟨"com/example/mullion/mullion/policy/Layers", "subLayerOfType", "(I)I"⟩ : MethodName)) hown (mvT hZ (hw _ (List.mem_of_getElem? (i := 5) rfl))) (mvT hZ (hw _ (List.mem_of_getElem? (i := 6) rfl))) (mvT hZ (hw _ (List.mem_of_getElem? (i := 7) rfl))) (mvT hZ (hw _ (List.mem_of_getElem? (i := 8) rfl))) (by decide) (backOf (W := 0) (own_rm2 l Z a0 hw [] (ty) h0 n0 Z0) hZ (hw _ (List.mem_of_getElem? (i := 8) rfl)) (hw _ (List.mem_of_getElem? (i := 7) rfl)) (by decide) (by decide)) (g := (mkF m 1 #[.val (.int ty), .unset] [(.int ty)])) rfl (by rw [hml]; rfl) (argsL := [(.int ty)]) (rest := []) (lenOf own_pd0 rfl) rfl (by show 2 * 0 + _ ≤ _; exact Nat.le_of_eq rfl) (hb hby own_d1_1) (fun _ _ => ⟨rfl, e0, (by decide : 0 + 0 ≤ _), (by decide : 0 + 0 ≤ _)⟩)
  dsimp only [Pt.U, Pt.locs, Pt.cells, Pt.slots] at X3 l3 y3 z3 st3 hQ3
  subst l3 y3 z3
  obtain ⟨rfl, rfl, eq1⟩ := hQ3
  try rw [List.append_nil] at X3
  have S4 : ∀ t, Steps p.tables e below (T3.setTop (mkF m 4 #[.val (.int ty), .unset] [(.int (own_sl ty))])) t → Steps p.tables e below (s₁.setTop (entryFrame m #[(.int ty)] 2)) t := fun t kt => S2 t (st3 _ kt)
  have S5 : ∀ t, Steps p.tables e below (T3.setTop (mkF m 9 #[.val (.int ty), .val (.int (own_sl ty))] [(.int (1000 : Int32)), (.int ty)])) t → Steps p.tables e below (s₁.setTop (entryFrame m #[(.int ty)] 2)) t := fun t kt => by
    refine S4 t ?_
    show Steps p.tables e below (T3.setTop (mkF m 4 #[.val (.int ty), .unset] [(.int (own_sl ty))])) t
    refine XS.istoreN X3.here hx rfl (hb hby own_d1_4) rfl (l' := #[.val (.int ty), .val (.int (own_sl ty))]) rfl ?_
    show Steps p.tables e below (T3.setTop (mkF m 5 #[.val (.int ty), .val (.int (own_sl ty))] [])) t
    refine XS.iloadN X3.here hx rfl (hb hby own_d1_5) rfl ?_
    show Steps p.tables e below (T3.setTop (mkF m 6 #[.val (.int ty), .val (.int (own_sl ty))] [(.int ty)])) t
    refine XS.sipush X3.here hx rfl (hb hby own_d1_6) ?_
    exact kt
  by_cases hc9 : ty < (1000 : Int32)
  · skip
    have S6 : ∀ t, Steps p.tables e below (T3.setTop (mkF m 20 #[.val (.int ty), .val (.int (own_sl ty))] [(.int (own_sl ty))])) t → Steps p.tables e below (s₁.setTop (entryFrame m #[(.int ty)] 2)) t := fun t kt => by
      refine S5 t ?_
      show Steps p.tables e below (T3.setTop (mkF m 9 #[.val (.int ty), .val (.int (own_sl ty))] [(.int (1000 : Int32)), (.int ty)])) t
      refine XS.icmpYes X3.here hx rfl (pc0 := 9) (pc' := 19) rfl (hb hby own_d1_9) rfl (tlt hc9).1 (by decide) (by decide) ?_
      show Steps p.tables e below (T3.setTop (mkF m 19 #[.val (.int ty), .val (.int (own_sl ty))] [])) t
      refine XS.iloadN X3.here hx rfl (hb hby own_d1_19) rfl ?_
      exact kt
    have hc20_7 : (own_sl ty) = (0 : Int32) := own_sl_out (by first | exact Or.inl hc9 | exact Or.inr hc16)
    have S8 : ∀ t, Steps p.tables e below (T3.setTop (mkF m 28 #[.val (.int ty), .val (.int (own_sl ty))] [(.int (1 : Int32))])) t → Steps p.tables e below (s₁.setTop (entryFrame m #[(.int ty)] 2)) t := fun t kt => by
      refine S6 t ?_
      show Steps p.tables e below (T3.setTop (mkF m 20 #[.val (.int ty), .val (.int (own_sl ty))] [(.int (own_sl ty))])) t
      refine XS.ifNo X3.here hx rfl (hb hby own_d1_20) rfl ((if0 _ _).trans (teq hc20_7).2) ?_
      show Steps p.tables e below (T3.setTop (mkF m 23 #[.val (.int ty), .val (.int (own_sl ty))] [])) t
      refine XS.iconst X3.here hx rfl (hb hby own_d1_23) ?_
      show Steps p.tables e below (T3.setTop (mkF m 24 #[.val (.int ty), .val (.int (own_sl ty))] [(.int (1 : Int32))])) t
      refine XS.goto X3.here hx rfl (pc0 := 24) (pc' := 28) rfl (hb hby own_d1_24) (by decide) (by decide) ?_
      exact kt
    obtain ⟨fs, hr, hrun, hended, hW, hsame⟩ := X3.leave (v := some (.int (nar .boolean (1 : Int32)))) (fun h => by rw [Bd.returns] at h; cases h)
    refine ⟨_, _, S8 _ ?_, hrun, hended, _, _, rfl, ?_, ⟨_, rfl⟩, hW, hsame.mono (by decide) (by decide)⟩
    · show Steps p.tables e below (T3.setTop (mkF m 28 #[.val (.int ty), .val (.int (own_sl ty))] [(.int (1 : Int32))])) _
      exact retN X3 hx (t := .boolean) Bd.returns (by simp) (hb hby own_d1_28) hr
    · show own_Q1 Z ty h0 n0 _ T3.heap _
      rw [eq1]
      exact ⟨rfl, rfl, rfl⟩
  · skip
    have S9 : ∀ t, Steps p.tables e below (T3.setTop (mkF m 16 #[.val (.int ty), .val (.int (own_sl ty))] [(.int (1005 : Int32)), (.int ty)])) t → Steps p.tables e below (s₁.setTop (entryFrame m #[(.int ty)] 2)) t := fun t kt => by
      refine S5 t ?_
      show Steps p.tables e below (T3.setTop (mkF m 9 #[.val (.int ty), .val (.int (own_sl ty))] [(.int (1000 : Int32)), (.int ty)])) t
      refine XS.icmpNo X3.here hx rfl (hb hby own_d1_9) rfl (flt hc9).1 ?_
      show Steps p.tables e below (T3.setTop (mkF m 12 #[.val (.int ty), .val (.int (own_sl ty))] [])) t
      refine XS.iloadN X3.here hx rfl (hb hby own_d1_12) rfl ?_
      show Steps p.tables e below (T3.setTop (mkF m 13 #[.val (.int ty), .val (.int (own_sl ty))] [(.int ty)])) t
      refine XS.sipush X3.here hx rfl (hb hby own_d1_13) ?_
      exact kt
    by_cases hc16 : (1005 : Int32) < ty
    · skip
      have S10 : ∀ t, Steps p.tables e below (T3.setTop (mkF m 20 #[.val (.int ty), .val (.int (own_sl ty))] [(.int (own_sl ty))])) t → Steps p.tables e below (s₁.setTop (entryFrame m #[(.int ty)] 2)) t := fun t kt => by
        refine S9 t ?_
        show Steps p.tables e below (T3.setTop (mkF m 16 #[.val (.int ty), .val (.int (own_sl ty))] [(.int (1005 : Int32)), (.int ty)])) t
        refine XS.icmpNo X3.here hx rfl (hb hby own_d1_16) rfl (tlt hc16).2.2.2 ?_
        show Steps p.tables e below (T3.setTop (mkF m 19 #[.val (.int ty), .val (.int (own_sl ty))] [])) t
        refine XS.iloadN X3.here hx rfl (hb hby own_d1_19) rfl ?_
        exact kt
      have hc20_11 : (own_sl ty) = (0 : Int32) := own_sl_out (by first | exact Or.inl hc9 | exact Or.inr hc16)
      have S12 : ∀ t, Steps p.tables e below (T3.setTop (mkF m 28 #[.val (.int ty), .val (.int (own_sl ty))] [(.int (1 : Int32))])) t → Steps p.tables e below (s₁.setTop (entryFrame m #[(.int ty)] 2)) t := fun t kt => by
        refine S10 t ?_
        show Steps p.tables e below (T3.setTop (mkF m 20 #[.val (.int ty), .val (.int (own_sl ty))] [(.int (own_sl ty))])) t
        refine XS.ifNo X3.here hx rfl (hb hby own_d1_20) rfl ((if0 _ _).trans (teq hc20_11).2) ?_
        show Steps p.tables e below (T3.setTop (mkF m 23 #[.val (.int ty), .val (.int (own_sl ty))] [])) t
        refine XS.iconst X3.here hx rfl (hb hby own_d1_23) ?_
        show Steps p.tables e below (T3.setTop (mkF m 24 #[.val (.int ty), .val (.int (own_sl ty))] [(.int (1 : Int32))])) t
        refine XS.goto X3.here hx rfl (pc0 := 24) (pc' := 28) rfl (hb hby own_d1_24) (by decide) (by decide) ?_
        exact kt
      obtain ⟨fs, hr, hrun, hended, hW, hsame⟩ := X3.leave (v := some (.int (nar .boolean (1 : Int32)))) (fun h => by rw [Bd.returns] at h; cases h)
      refine ⟨_, _, S12 _ ?_, hrun, hended, _, _, rfl, ?_, ⟨_, rfl⟩, hW, hsame.mono (by decide) (by decide)⟩
      · show Steps p.tables e below (T3.setTop (mkF m 28 #[.val (.int ty), .val (.int (own_sl ty))] [(.int (1 : Int32))])) _
        exact retN X3 hx (t := .boolean) Bd.returns (by simp) (hb hby own_d1_28) hr
      · show own_Q1 Z ty h0 n0 _ T3.heap _
        rw [eq1]
        exact ⟨rfl, rfl, rfl⟩
    · skip
      have S13 : ∀ t, Steps p.tables e below (T3.setTop (mkF m 32 #[.val (.int ty), .val (.int (own_sl ty))] [(.int (-2 : Int32)), (.int (own_sl ty))])) t → Steps p.tables e below (s₁.setTop (entryFrame m #[(.int ty)] 2)) t := fun t kt => by
        refine S9 t ?_
        show Steps p.tables e below (T3.setTop (mkF m 16 #[.val (.int ty), .val (.int (own_sl ty))] [(.int (1005 : Int32)), (.int ty)])) t
        refine XS.icmpYes X3.here hx rfl (pc0 := 16) (pc' := 29) rfl (hb hby own_d1_16) rfl (flt hc16).2.2.2 (by decide) (by decide) ?_
        show Steps p.tables e below (T3.setTop (mkF m 29 #[.val (.int ty), .val (.int (own_sl ty))] [])) t
        refine XS.iloadN X3.here hx rfl (hb hby own_d1_29) rfl ?_
        show Steps p.tables e below (T3.setTop (mkF m 30 #[.val (.int ty), .val (.int (own_sl ty))] [(.int (own_sl ty))])) t
        refine XS.bipush X3.here hx rfl (hb hby own_d1_30) ?_
        exact kt
      have hc32_14 : ¬ ((own_sl ty) < (-2 : Int32)) := (own_sl_in hc9 hc16).1
      have S15 : ∀ t, Steps p.tables e below (T3.setTop (mkF m 37 #[.val (.int ty), .val (.int (own_sl ty))] [(.int (3 : Int32)), (.int (own_sl ty))])) t → Steps p.tables e below (s₁.setTop (entryFrame m #[(.int ty)] 2)) t := fun t kt => by
        refine S13 t ?_
        show Steps p.tables e below (T3.setTop (mkF m 32 #[.val (.int ty), .val (.int (own_sl ty))] [(.int (-2 : Int32)), (.int (own_sl ty))])) t
        refine XS.icmpNo X3.here hx rfl (hb hby own_d1_32) rfl (flt hc32_14).1 ?_
        show Steps p.tables e below (T3.setTop (mkF m 35 #[.val (.int ty), .val (.int (own_sl ty))] [])) t
        refine XS.iloadN X3.here hx rfl (hb hby own_d1_35) rfl ?_
        show Steps p.tables e below (T3.setTop (mkF m 36 #[.val (.int ty), .val (.int (own_sl ty))] [(.int (own_sl ty))])) t
        refine XS.iconst X3.here hx rfl (hb hby own_d1_36) ?_
        exact kt
      have hc37_16 : ¬ ((3 : Int32) < (own_sl ty)) := (own_sl_in hc9 hc16).2.1
      have S17 : ∀ t, Steps p.tables e below (T3.setTop (mkF m 41 #[.val (.int ty), .val (.int (own_sl ty))] [(.int (own_sl ty))])) t → Steps p.tables e below (s₁.setTop (entryFrame m #[(.int ty)] 2)) t := fun t kt => by
        refine S15 t ?_
        show Steps p.tables e below (T3.setTop (mkF m 37 #[.val (.int ty), .val (.int (own_sl ty))] [(.int (3 : Int32)), (.int (own_sl ty))])) t
        refine XS.icmpNo X3.here hx rfl (hb hby own_d1_37) rfl (flt hc37_16).2.2.1 ?_
        show Steps p.tables e below (T3.setTop (mkF m 40 #[.val (.int ty), .val (.int (own_sl ty))] [])) t
        refine XS.iloadN X3.here hx rfl (hb hby own_d1_40) rfl ?_
        exact kt
      have hc41_18 : ¬ ((own_sl ty) = (0 : Int32)) := (own_sl_in hc9 hc16).2.2
      have S19 : ∀ t, Steps p.tables e below (T3.setTop (mkF m 49 #[.val (.int ty), .val (.int (own_sl ty))] [(.int (1 : Int32))])) t → Steps p.tables e below (s₁.setTop (entryFrame m #[(.int ty)] 2)) t := fun t kt => by
        refine S17 t ?_
        show Steps p.tables e below (T3.setTop (mkF m 41 #[.val (.int ty), .val (.int (own_sl ty))] [(.int (own_sl ty))])) t
        refine XS.ifNo X3.here hx rfl (hb hby own_d1_41) rfl ((if0 _ _).trans (feq hc41_18).1) ?_
        show Steps p.tables e below (T3.setTop (mkF m 44 #[.val (.int ty), .val (.int (own_sl ty))] [])) t
        refine XS.iconst X3.here hx rfl (hb hby own_d1_44) ?_
        show Steps p.tables e below (T3.setTop (mkF m 45 #[.val (.int ty), .val (.int (own_sl ty))] [(.int (1 : Int32))])) t
        refine XS.goto X3.here hx rfl (pc0 := 45) (pc' := 49) rfl (hb hby own_d1_45) (by decide) (by decide) ?_
        exact kt
      obtain ⟨fs, hr, hrun, hended, hW, hsame⟩ := X3.leave (v := some (.int (nar .boolean (1 : Int32)))) (fun h => by rw [Bd.returns] at h; cases h)
      refine ⟨_, _, S19 _ ?_, hrun, hended, _, _, rfl, ?_, ⟨_, rfl⟩, hW, hsame.mono (by decide) (by decide)⟩
      · show Steps p.tables e below (T3.setTop (mkF m 49 #[.val (.int ty), .val (.int (own_sl ty))] [(.int (1 : Int32))])) _
        exact retN X3 hx (t := .boolean) Bd.returns (by simp) (hb hby own_d1_49) hr
      · show own_Q1 Z ty h0 n0 _ T3.heap _
        rw [eq1]
        exact ⟨rfl, rfl, rfl⟩
theorem own_pd1 : parseMethodDescriptor "(I)Z" = some ⟨[.int], some .boolean⟩ := by decide +kernel
theorem own_ef0 (m : MethodId) (x0 : Int32) (x1 : Int32) : entryFrame m #[(.int x0), (.int x1)] maxLocals = mkF m 0 #[.val (.int x0), .val (.int x1), .unset, .unset, .unset, .unset, .unset, .unset, .unset] [] := by first | (simp [entryFrame, mkF, argsToLocals, Value.category, maxLocals]; done) | rfl
def own_Q0 (Z : State) (ty : Int32) (kk : Int32) (h0 : Heap) (n0 : Nat) (v : Option Value) (h : Heap) (L : List Loc) : Prop := v = some (.int (1 : Int32)) ∧ Fr n0 L
set_option maxHeartbeats 40000000 in
theorem own_rm0 (l : Launch) (Z : State) (a0 : Array Value) (hw : ∀ d ∈ tables_1, d.before a0 Z = true) (ws : List Jvm.Cond) (ty : Int32) (kk : Int32) (h0 : Heap) (n0 : Nat) (Z0 : n0 ≤ h0.size) :
    MetFree l x (head1 (Jvm.Cond.code x code maxLocals ret :: ws) room_1) (fun a U => a = #[(.int ty), (.int kk)] ∧ Z.Warmed39 U.vm ∧ U.heap = h0) (fun _ _ _ _ _ => True) (fun _ U o U' => ∃ v L, o = .returned v ∧ own_Q0 Z ty kk h0 n0 v U'.heap L ∧ FrameEnd U o U' L room_1.cells room_1.slots) := by
  refine MetFree.of_bodySF (plainFor_of_name own_pn1) hisR ?_
  intro p e s m args below meth c s₁ Bd hml0 hP hK
  obtain ⟨rfl, hZ, hh⟩ := hP
  have hx := Bd.exec
  have hby := Bd.bytes
  have hml : c.maxLocals = 9 := hml0
  have hown : s.vm.findClass "com/example/mullion/mullion/policy/LayersSubLayerOfTypePinLaw" = some m.cls := findClass_of_methodNamed Bd.named
  have hnm := (name_of_methodNamed Bd.named Bd.method).1
  have X0 : Stand p l e room_1 s m #[(.int ty), (.int kk)] below meth c s₁ [] 0 0 := Stand.of_body Bd
  have e0 : s₁.heap = h0 := by rw [← hh, Bd.state]; rfl
  have N0 := Fr.nil n0
  have pre0 : ∀ t, Steps p.tables e below (s₁.setTop (mkF m 0 #[.val (.int ty), .val (.int kk), .unset, .unset, .unset, .unset, .unset, .unset, .unset] [])) t → Steps p.tables e below (s₁.setTop (entryFrame m #[(.int ty), (.int kk)] maxLocals)) t := fun t k => castTop (own_ef0 m ty kk) k
  have S2 : ∀ t, Steps p.tables e below (s₁.setTop (mkF m 13 #[.val (.int ty), .val (.int kk), .val (.int ((998 : Int32) + ((kk &&& (2147483647 : Int32)) % (10 : Int32)))), .unset, .unset, .unset, .unset, .unset, .unset] [(.int ty)])) t → Steps p.tables e below (s₁.setTop (entryFrame m #[(.int ty), (.int kk)] maxLocals)) t := fun t kt => by
    refine pre0 t ?_
    show Steps p.tables e below (s₁.setTop (mkF m 0 #[.val (.int ty), .val (.int kk), .unset, .unset, .unset, .unset, .unset, .unset, .unset] [])) t
    refine XS.sipush X0.here hx rfl (hb hby at_0) ?_
    show Steps p.tables e below (s₁.setTop (mkF m 3 #[.val (.int ty), .val (.int kk), .unset, .unset, .unset, .unset, .unset, .unset, .unset] [(.int (998 : Int32))])) t
    refine XS.iloadN X0.here hx rfl (hb hby at_3) rfl ?_
    show Steps p.tables e below (s₁.setTop (mkF m 4 #[.val (.int ty), .val (.int kk), .unset, .unset, .unset, .unset, .unset, .unset, .unset] [(.int kk), (.int (998 : Int32))])) t
    refine X0.ldcInt hx hown (mvT hZ (hw _ (List.mem_of_getElem? (i := 0) rfl))) (g := (mkF m 4 #[.val (.int ty), .val (.int kk), .unset, .unset, .unset, .unset, .unset, .unset, .unset] [(.int kk), (.int (998 : Int32))])) rfl (hb hby at_4) _ ?_
    show Steps p.tables e below (s₁.setTop (mkF m 6 #[.val (.int ty), .val (.int kk), .unset, .unset, .unset, .unset, .unset, .unset, .unset] [(.int (2147483647 : Int32)), (.int kk), (.int (998 : Int32))])) t
    refine XS.iand X0.here hx rfl (hb hby at_6) rfl ?_
    show Steps p.tables e below (s₁.setTop (mkF m 7 #[.val (.int ty), .val (.int kk), .unset, .unset, .unset, .unset, .unset, .unset, .unset] [(.int (kk &&& (2147483647 : Int32))), (.int (998 : Int32))])) t
    refine XS.bipush X0.here hx rfl (hb hby at_7) ?_
    show Steps p.tables e below (s₁.setTop (mkF m 9 #[.val (.int ty), .val (.int kk), .unset, .unset, .unset, .unset, .unset, .unset, .unset] [(.int (10 : Int32)), (.int (kk &&& (2147483647 : Int32))), (.int (998 : Int32))])) t
    refine iremM X0 hx rfl (hb hby at_9) rfl (by decide) ?_
    show Steps p.tables e below (s₁.setTop (mkF m 10 #[.val (.int ty), .val (.int kk), .unset, .unset, .unset, .unset, .unset, .unset, .unset] [(.int ((kk &&& (2147483647 : Int32)) % (10 : Int32))), (.int (998 : Int32))])) t
    refine XS.iadd X0.here hx rfl (hb hby at_10) rfl ?_
    show Steps p.tables e below (s₁.setTop (mkF m 11 #[.val (.int ty), .val (.int kk), .unset, .unset, .unset, .unset, .unset, .unset, .unset] [(.int ((998 : Int32) + ((kk &&& (2147483647 : Int32)) % (10 : Int32))))])) t
    refine XS.istoreN X0.here hx rfl (hb hby at_11) rfl (l' := #[.val (.int ty), .val (.int kk), .val (.int ((998 : Int32) + ((kk &&& (2147483647 : Int32)) % (10 : Int32)))), .unset, .unset, .unset, .unset, .unset, .unset]) rfl ?_
    show Steps p.tables e below (s₁.setTop (mkF m 12 #[.val (.int ty), .val (.int kk), .val (.int ((998 : Int32) + ((kk &&& (2147483647 : Int32)) % (10 : Int32)))), .unset, .unset, .unset, .unset, .unset, .unset] [])) t
    refine XS.iloadN X0.here hx rfl (hb hby at_12) rfl ?_
    exact kt
  obtain ⟨_, _, ⟨T3, L3, k3, n3⟩, -, X3, ⟨Lc3, hQ3, l3, y3, z3⟩, st3⟩ := Jvm.LawKit.callS X0 hx (y := (⟨"com/example/mullion/mullion/policy/LayersSubLayerOfTypePinLaw", "ok", "(I)Z"⟩ : MethodName)) hown (mvT hZ (hw _ (List.mem_of_getElem? (i := 1) rfl))) (mvT hZ (hw _ (List.mem_of_getElem? (i := 2) rfl))) (mvT hZ (hw _ (List.mem_of_getElem? (i := 3) rfl))) (mvT hZ (hw _ (List.mem_of_getElem? (i := 4) rfl))) (by decide) (backOf (W := 0) (own_rm1 l Z a0 hw [] (ty) h0 n0 Z0) hZ (hw _ (List.mem_of_getElem? (i := 4) rfl)) (hw _ (List.mem_of_getElem? (i := 3) rfl)) (by decide) (by decide)) (g := (mkF m 13 #[.val (.int ty), .val (.int kk), .val (.int ((998 : Int32) + ((kk &&& (2147483647 : Int32)) % (10 : Int32)))), .unset, .unset, .unset, .unset, .unset, .unset] [(.int ty)])) rfl (by rw [hml]; rfl) (argsL := [(.int ty)]) (rest := []) (lenOf own_pd1 rfl) rfl (by show 2 * 0 + _ ≤ _; exact Nat.le_of_eq rfl) (hb hby at_13) (fun _ _ => ⟨rfl, e0, (by decide : 0 + 0 ≤ _), (by decide : 0 + 0 ≤ _)⟩)
  dsimp only [Pt.U, Pt.locs, Pt.cells, Pt.slots] at X3 l3 y3 z3 st3 hQ3
  subst l3 y3 z3
  obtain ⟨rfl, rfl, eq1⟩ := hQ3
  try rw [List.append_nil] at X3
  have S4 : ∀ t, Steps p.tables e below (T3.setTop (mkF m 16 #[.val (.int ty), .val (.int kk), .val (.int ((998 : Int32) + ((kk &&& (2147483647 : Int32)) % (10 : Int32)))), .unset, .unset, .unset, .unset, .unset, .unset] [(.int (1 : Int32))])) t → Steps p.tables e below (s₁.setTop (entryFrame m #[(.int ty), (.int kk)] maxLocals)) t := fun t kt => S2 t (st3 _ kt)
  have hc16_5 : ¬ ((1 : Int32) = (0 : Int32)) := by decide
  have S7 : ∀ t, Steps p.tables e below (T3.setTop (mkF m 20 #[.val (.int ty), .val (.int kk), .val (.int ((998 : Int32) + ((kk &&& (2147483647 : Int32)) % (10 : Int32)))), .unset, .unset, .unset, .unset, .unset, .unset] [(.int ((998 : Int32) + ((kk &&& (2147483647 : Int32)) % (10 : Int32))))])) t → Steps p.tables e below (s₁.setTop (entryFrame m #[(.int ty), (.int kk)] maxLocals)) t := fun t kt => by
    refine S4 t ?_
    show Steps p.tables e below (T3.setTop (mkF m 16 #[.val (.int ty), .val (.int kk), .val (.int ((998 : Int32) + ((kk &&& (2147483647 : Int32)) % (10 : Int32)))), .unset, .unset, .unset, .unset, .unset, .unset] [(.int (1 : Int32))])) t
    refine XS.ifNo X3.here hx rfl (hb hby at_16) rfl ((if0 _ _).trans (feq hc16_5).1) ?_
    show Steps p.tables e below (T3.setTop (mkF m 19 #[.val (.int ty), .val (.int kk), .val (.int ((998 : Int32) + ((kk &&& (2147483647 : Int32)) % (10 : Int32)))), .unset, .unset, .unset, .unset, .unset, .unset] [])) t
    refine XS.iloadN X3.here hx rfl (hb hby at_19) rfl ?_
    exact kt
  obtain ⟨_, _, ⟨T8, L8, k8, n8⟩, -, X8, ⟨Lc8, hQ8, l8, y8, z8⟩, st8⟩ := Jvm.LawKit.callS X3 hx (y := (⟨"com/example/mullion/mullion/policy/LayersSubLayerOfTypePinLaw", "ok", "(I)Z"⟩ : MethodName)) hown (mvT hZ (hw _ (List.mem_of_getElem? (i := 1) rfl))) (mvT hZ (hw _ (List.mem_of_getElem? (i := 2) rfl))) (mvT hZ (hw _ (List.mem_of_getElem? (i := 3) rfl))) (mvT hZ (hw _ (List.mem_of_getElem? (i := 4) rfl))) (by decide) (backOf (W := 0) (own_rm1 l Z a0 hw [] (((998 : Int32) + ((kk &&& (2147483647 : Int32)) % (10 : Int32)))) h0 n0 Z0) hZ (hw _ (List.mem_of_getElem? (i := 4) rfl)) (hw _ (List.mem_of_getElem? (i := 3) rfl)) (by decide) (by decide)) (g := (mkF m 20 #[.val (.int ty), .val (.int kk), .val (.int ((998 : Int32) + ((kk &&& (2147483647 : Int32)) % (10 : Int32)))), .unset, .unset, .unset, .unset, .unset, .unset] [(.int ((998 : Int32) + ((kk &&& (2147483647 : Int32)) % (10 : Int32))))])) rfl (by rw [hml]; rfl) (argsL := [(.int ((998 : Int32) + ((kk &&& (2147483647 : Int32)) % (10 : Int32))))]) (rest := []) (lenOf own_pd1 rfl) rfl (by show 2 * 0 + _ ≤ _; exact Nat.le_of_eq rfl) (hb hby at_20) (fun _ _ => ⟨rfl, eq1, (by decide : 0 + 0 ≤ _), (by decide : 0 + 0 ≤ _)⟩)
  dsimp only [Pt.U, Pt.locs, Pt.cells, Pt.slots] at X8 l8 y8 z8 st8 hQ8
  subst l8 y8 z8
  obtain ⟨rfl, rfl, eq6⟩ := hQ8
  try rw [List.append_nil] at X8
  have S9 : ∀ t, Steps p.tables e below (T8.setTop (mkF m 23 #[.val (.int ty), .val (.int kk), .val (.int ((998 : Int32) + ((kk &&& (2147483647 : Int32)) % (10 : Int32)))), .unset, .unset, .unset, .unset, .unset, .unset] [(.int (1 : Int32))])) t → Steps p.tables e below (s₁.setTop (entryFrame m #[(.int ty), (.int kk)] maxLocals)) t := fun t kt => S7 t (st8 _ kt)
  have hc23_10 : ¬ ((1 : Int32) = (0 : Int32)) := by decide
  have S12 : ∀ t, Steps p.tables e below (T8.setTop (mkF m 31 #[.val (.int ty), .val (.int kk), .val (.int ((998 : Int32) + ((kk &&& (2147483647 : Int32)) % (10 : Int32)))), .unset, .unset, .unset, .unset, .unset, .unset] [(.int (1000 : Int32))])) t → Steps p.tables e below (s₁.setTop (entryFrame m #[(.int ty), (.int kk)] maxLocals)) t := fun t kt => by
    refine S9 t ?_
    show Steps p.tables e below (T8.setTop (mkF m 23 #[.val (.int ty), .val (.int kk), .val (.int ((998 : Int32) + ((kk &&& (2147483647 : Int32)) % (10 : Int32)))), .unset, .unset, .unset, .unset, .unset, .unset] [(.int (1 : Int32))])) t
    refine XS.ifYes X8.here hx rfl (pc0 := 23) (pc' := 28) rfl (hb hby at_23) rfl ((if0 _ _).trans (feq hc23_10).2) (by decide) (by decide) ?_
    show Steps p.tables e below (T8.setTop (mkF m 28 #[.val (.int ty), .val (.int kk), .val (.int ((998 : Int32) + ((kk &&& (2147483647 : Int32)) % (10 : Int32)))), .unset, .unset, .unset, .unset, .unset, .unset] [])) t
    refine XS.sipush X8.here hx rfl (hb hby at_28) ?_
    exact kt
  obtain ⟨_, _, ⟨T13, L13, k13, n13⟩, -, X13, ⟨Lc13, hQ13, l13, y13, z13⟩, st13⟩ := Jvm.LawKit.callS X8 hx (y := (⟨"com/example/mullion/mullion/policy/Layers", "subLayerOfType", "(I)I"⟩ : MethodName)) hown (mvT hZ (hw _ (List.mem_of_getElem? (i := 5) rfl))) (mvT hZ (hw _ (List.mem_of_getElem? (i := 6) rfl))) (mvT hZ (hw _ (List.mem_of_getElem? (i := 7) rfl))) (mvT hZ (hw _ (List.mem_of_getElem? (i := 8) rfl))) (by decide) (backOf (W := 0) (own_rm2 l Z a0 hw [] ((1000 : Int32)) h0 n0 Z0) hZ (hw _ (List.mem_of_getElem? (i := 8) rfl)) (hw _ (List.mem_of_getElem? (i := 7) rfl)) (by decide) (by decide)) (g := (mkF m 31 #[.val (.int ty), .val (.int kk), .val (.int ((998 : Int32) + ((kk &&& (2147483647 : Int32)) % (10 : Int32)))), .unset, .unset, .unset, .unset, .unset, .unset] [(.int (1000 : Int32))])) rfl (by rw [hml]; rfl) (argsL := [(.int (1000 : Int32))]) (rest := []) (lenOf own_pd0 rfl) rfl (by show 2 * 0 + _ ≤ _; exact Nat.le_of_eq rfl) (hb hby at_31) (fun _ _ => ⟨rfl, eq6, (by decide : 0 + 0 ≤ _), (by decide : 0 + 0 ≤ _)⟩)
  dsimp only [Pt.U, Pt.locs, Pt.cells, Pt.slots] at X13 l13 y13 z13 st13 hQ13
  subst l13 y13 z13
  obtain ⟨rfl, rfl, eq11⟩ := hQ13
  try rw [List.append_nil] at X13
  have S14 : ∀ t, Steps p.tables e below (T13.setTop (mkF m 34 #[.val (.int ty), .val (.int kk), .val (.int ((998 : Int32) + ((kk &&& (2147483647 : Int32)) % (10 : Int32)))), .unset, .unset, .unset, .unset, .unset, .unset] [(.int (own_sl (1000 : Int32)))])) t → Steps p.tables e below (s₁.setTop (entryFrame m #[(.int ty), (.int kk)] maxLocals)) t := fun t kt => S12 t (st13 _ kt)
  have S16 : ∀ t, Steps p.tables e below (T13.setTop (mkF m 38 #[.val (.int ty), .val (.int kk), .val (.int ((998 : Int32) + ((kk &&& (2147483647 : Int32)) % (10 : Int32)))), .val (.int (own_sl (1000 : Int32))), .unset, .unset, .unset, .unset, .unset] [(.int (1001 : Int32))])) t → Steps p.tables e below (s₁.setTop (entryFrame m #[(.int ty), (.int kk)] maxLocals)) t := fun t kt => by
    refine S14 t ?_
    show Steps p.tables e below (T13.setTop (mkF m 34 #[.val (.int ty), .val (.int kk), .val (.int ((998 : Int32) + ((kk &&& (2147483647 : Int32)) % (10 : Int32)))), .unset, .unset, .unset, .unset, .unset, .unset] [(.int (own_sl (1000 : Int32)))])) t
    refine XS.istoreN X13.here hx rfl (hb hby at_34) rfl (l' := #[.val (.int ty), .val (.int kk), .val (.int ((998 : Int32) + ((kk &&& (2147483647 : Int32)) % (10 : Int32)))), .val (.int (own_sl (1000 : Int32))), .unset, .unset, .unset, .unset, .unset]) rfl ?_
    show Steps p.tables e below (T13.setTop (mkF m 35 #[.val (.int ty), .val (.int kk), .val (.int ((998 : Int32) + ((kk &&& (2147483647 : Int32)) % (10 : Int32)))), .val (.int (own_sl (1000 : Int32))), .unset, .unset, .unset, .unset, .unset] [])) t
    refine XS.sipush X13.here hx rfl (hb hby at_35) ?_
    exact kt
  obtain ⟨_, _, ⟨T17, L17, k17, n17⟩, -, X17, ⟨Lc17, hQ17, l17, y17, z17⟩, st17⟩ := Jvm.LawKit.callS X13 hx (y := (⟨"com/example/mullion/mullion/policy/Layers", "subLayerOfType", "(I)I"⟩ : MethodName)) hown (mvT hZ (hw _ (List.mem_of_getElem? (i := 5) rfl))) (mvT hZ (hw _ (List.mem_of_getElem? (i := 6) rfl))) (mvT hZ (hw _ (List.mem_of_getElem? (i := 7) rfl))) (mvT hZ (hw _ (List.mem_of_getElem? (i := 8) rfl))) (by decide) (backOf (W := 0) (own_rm2 l Z a0 hw [] ((1001 : Int32)) h0 n0 Z0) hZ (hw _ (List.mem_of_getElem? (i := 8) rfl)) (hw _ (List.mem_of_getElem? (i := 7) rfl)) (by decide) (by decide)) (g := (mkF m 38 #[.val (.int ty), .val (.int kk), .val (.int ((998 : Int32) + ((kk &&& (2147483647 : Int32)) % (10 : Int32)))), .val (.int (own_sl (1000 : Int32))), .unset, .unset, .unset, .unset, .unset] [(.int (1001 : Int32))])) rfl (by rw [hml]; rfl) (argsL := [(.int (1001 : Int32))]) (rest := []) (lenOf own_pd0 rfl) rfl (by show 2 * 0 + _ ≤ _; exact Nat.le_of_eq rfl) (hb hby at_38) (fun _ _ => ⟨rfl, eq11, (by decide : 0 + 0 ≤ _), (by decide : 0 + 0 ≤ _)⟩)
  dsimp only [Pt.U, Pt.locs, Pt.cells, Pt.slots] at X17 l17 y17 z17 st17 hQ17
  subst l17 y17 z17
  obtain ⟨rfl, rfl, eq15⟩ := hQ17
  try rw [List.append_nil] at X17
  have S18 : ∀ t, Steps p.tables e below (T17.setTop (mkF m 41 #[.val (.int ty), .val (.int kk), .val (.int ((998 : Int32) + ((kk &&& (2147483647 : Int32)) % (10 : Int32)))), .val (.int (own_sl (1000 : Int32))), .unset, .unset, .unset, .unset, .unset] [(.int (own_sl (1001 : Int32)))])) t → Steps p.tables e below (s₁.setTop (entryFrame m #[(.int ty), (.int kk)] maxLocals)) t := fun t kt => S16 t (st17 _ kt)
  have S20 : ∀ t, Steps p.tables e below (T17.setTop (mkF m 46 #[.val (.int ty), .val (.int kk), .val (.int ((998 : Int32) + ((kk &&& (2147483647 : Int32)) % (10 : Int32)))), .val (.int (own_sl (1000 : Int32))), .val (.int (own_sl (1001 : Int32))), .unset, .unset, .unset, .unset] [(.int (1002 : Int32))])) t → Steps p.tables e below (s₁.setTop (entryFrame m #[(.int ty), (.int kk)] maxLocals)) t := fun t kt => by
    refine S18 t ?_
    show Steps p.tables e below (T17.setTop (mkF m 41 #[.val (.int ty), .val (.int kk), .val (.int ((998 : Int32) + ((kk &&& (2147483647 : Int32)) % (10 : Int32)))), .val (.int (own_sl (1000 : Int32))), .unset, .unset, .unset, .unset, .unset] [(.int (own_sl (1001 : Int32)))])) t
    refine XS.istore X17.here hx rfl (hb hby at_41) rfl (l' := #[.val (.int ty), .val (.int kk), .val (.int ((998 : Int32) + ((kk &&& (2147483647 : Int32)) % (10 : Int32)))), .val (.int (own_sl (1000 : Int32))), .val (.int (own_sl (1001 : Int32))), .unset, .unset, .unset, .unset]) rfl ?_
    show Steps p.tables e below (T17.setTop (mkF m 43 #[.val (.int ty), .val (.int kk), .val (.int ((998 : Int32) + ((kk &&& (2147483647 : Int32)) % (10 : Int32)))), .val (.int (own_sl (1000 : Int32))), .val (.int (own_sl (1001 : Int32))), .unset, .unset, .unset, .unset] [])) t
    refine XS.sipush X17.here hx rfl (hb hby at_43) ?_
    exact kt
  obtain ⟨_, _, ⟨T21, L21, k21, n21⟩, -, X21, ⟨Lc21, hQ21, l21, y21, z21⟩, st21⟩ := Jvm.LawKit.callS X17 hx (y := (⟨"com/example/mullion/mullion/policy/Layers", "subLayerOfType", "(I)I"⟩ : MethodName)) hown (mvT hZ (hw _ (List.mem_of_getElem? (i := 5) rfl))) (mvT hZ (hw _ (List.mem_of_getElem? (i := 6) rfl))) (mvT hZ (hw _ (List.mem_of_getElem? (i := 7) rfl))) (mvT hZ (hw _ (List.mem_of_getElem? (i := 8) rfl))) (by decide) (backOf (W := 0) (own_rm2 l Z a0 hw [] ((1002 : Int32)) h0 n0 Z0) hZ (hw _ (List.mem_of_getElem? (i := 8) rfl)) (hw _ (List.mem_of_getElem? (i := 7) rfl)) (by decide) (by decide)) (g := (mkF m 46 #[.val (.int ty), .val (.int kk), .val (.int ((998 : Int32) + ((kk &&& (2147483647 : Int32)) % (10 : Int32)))), .val (.int (own_sl (1000 : Int32))), .val (.int (own_sl (1001 : Int32))), .unset, .unset, .unset, .unset] [(.int (1002 : Int32))])) rfl (by rw [hml]; rfl) (argsL := [(.int (1002 : Int32))]) (rest := []) (lenOf own_pd0 rfl) rfl (by show 2 * 0 + _ ≤ _; exact Nat.le_of_eq rfl) (hb hby at_46) (fun _ _ => ⟨rfl, eq15, (by decide : 0 + 0 ≤ _), (by decide : 0 + 0 ≤ _)⟩)
  dsimp only [Pt.U, Pt.locs, Pt.cells, Pt.slots] at X21 l21 y21 z21 st21 hQ21
  subst l21 y21 z21
  obtain ⟨rfl, rfl, eq19⟩ := hQ21
  try rw [List.append_nil] at X21
  have S22 : ∀ t, Steps p.tables e below (T21.setTop (mkF m 49 #[.val (.int ty), .val (.int kk), .val (.int ((998 : Int32) + ((kk &&& (2147483647 : Int32)) % (10 : Int32)))), .val (.int (own_sl (1000 : Int32))), .val (.int (own_sl (1001 : Int32))), .unset, .unset, .unset, .unset] [(.int (own_sl (1002 : Int32)))])) t → Steps p.tables e below (s₁.setTop (entryFrame m #[(.int ty), (.int kk)] maxLocals)) t := fun t kt => S20 t (st21 _ kt)
  have S24 : ∀ t, Steps p.tables e below (T21.setTop (mkF m 54 #[.val (.int ty), .val (.int kk), .val (.int ((998 : Int32) + ((kk &&& (2147483647 : Int32)) % (10 : Int32)))), .val (.int (own_sl (1000 : Int32))), .val (.int (own_sl (1001 : Int32))), .val (.int (own_sl (1002 : Int32))), .unset, .unset, .unset] [(.int (1003 : Int32))])) t → Steps p.tables e below (s₁.setTop (entryFrame m #[(.int ty), (.int kk)] maxLocals)) t := fun t kt => by
    refine S22 t ?_
    show Steps p.tables e below (T21.setTop (mkF m 49 #[.val (.int ty), .val (.int kk), .val (.int ((998 : Int32) + ((kk &&& (2147483647 : Int32)) % (10 : Int32)))), .val (.int (own_sl (1000 : Int32))), .val (.int (own_sl (1001 : Int32))), .unset, .unset, .unset, .unset] [(.int (own_sl (1002 : Int32)))])) t
    refine XS.istore X21.here hx rfl (hb hby at_49) rfl (l' := #[.val (.int ty), .val (.int kk), .val (.int ((998 : Int32) + ((kk &&& (2147483647 : Int32)) % (10 : Int32)))), .val (.int (own_sl (1000 : Int32))), .val (.int (own_sl (1001 : Int32))), .val (.int (own_sl (1002 : Int32))), .unset, .unset, .unset]) rfl ?_
    show Steps p.tables e below (T21.setTop (mkF m 51 #[.val (.int ty), .val (.int kk), .val (.int ((998 : Int32) + ((kk &&& (2147483647 : Int32)) % (10 : Int32)))), .val (.int (own_sl (1000 : Int32))), .val (.int (own_sl (1001 : Int32))), .val (.int (own_sl (1002 : Int32))), .unset, .unset, .unset] [])) t
    refine XS.sipush X21.here hx rfl (hb hby at_51) ?_
    exact kt
  obtain ⟨_, _, ⟨T25, L25, k25, n25⟩, -, X25, ⟨Lc25, hQ25, l25, y25, z25⟩, st25⟩ := Jvm.LawKit.callS X21 hx (y := (⟨"com/example/mullion/mullion/policy/Layers", "subLayerOfType", "(I)I"⟩ : MethodName)) hown (mvT hZ (hw _ (List.mem_of_getElem? (i := 5) rfl))) (mvT hZ (hw _ (List.mem_of_getElem? (i := 6) rfl))) (mvT hZ (hw _ (List.mem_of_getElem? (i := 7) rfl))) (mvT hZ (hw _ (List.mem_of_getElem? (i := 8) rfl))) (by decide) (backOf (W := 0) (own_rm2 l Z a0 hw [] ((1003 : Int32)) h0 n0 Z0) hZ (hw _ (List.mem_of_getElem? (i := 8) rfl)) (hw _ (List.mem_of_getElem? (i := 7) rfl)) (by decide) (by decide)) (g := (mkF m 54 #[.val (.int ty), .val (.int kk), .val (.int ((998 : Int32) + ((kk &&& (2147483647 : Int32)) % (10 : Int32)))), .val (.int (own_sl (1000 : Int32))), .val (.int (own_sl (1001 : Int32))), .val (.int (own_sl (1002 : Int32))), .unset, .unset, .unset] [(.int (1003 : Int32))])) rfl (by rw [hml]; rfl) (argsL := [(.int (1003 : Int32))]) (rest := []) (lenOf own_pd0 rfl) rfl (by show 2 * 0 + _ ≤ _; exact Nat.le_of_eq rfl) (hb hby at_54) (fun _ _ => ⟨rfl, eq19, (by decide : 0 + 0 ≤ _), (by decide : 0 + 0 ≤ _)⟩)
  dsimp only [Pt.U, Pt.locs, Pt.cells, Pt.slots] at X25 l25 y25 z25 st25 hQ25
  subst l25 y25 z25
  obtain ⟨rfl, rfl, eq23⟩ := hQ25
  try rw [List.append_nil] at X25
  have S26 : ∀ t, Steps p.tables e below (T25.setTop (mkF m 57 #[.val (.int ty), .val (.int kk), .val (.int ((998 : Int32) + ((kk &&& (2147483647 : Int32)) % (10 : Int32)))), .val (.int (own_sl (1000 : Int32))), .val (.int (own_sl (1001 : Int32))), .val (.int (own_sl (1002 : Int32))), .unset, .unset, .unset] [(.int (own_sl (1003 : Int32)))])) t → Steps p.tables e below (s₁.setTop (entryFrame m #[(.int ty), (.int kk)] maxLocals)) t := fun t kt => S24 t (st25 _ kt)
  have S28 : ∀ t, Steps p.tables e below (T25.setTop (mkF m 62 #[.val (.int ty), .val (.int kk), .val (.int ((998 : Int32) + ((kk &&& (2147483647 : Int32)) % (10 : Int32)))), .val (.int (own_sl (1000 : Int32))), .val (.int (own_sl (1001 : Int32))), .val (.int (own_sl (1002 : Int32))), .val (.int (own_sl (1003 : Int32))), .unset, .unset] [(.int (1004 : Int32))])) t → Steps p.tables e below (s₁.setTop (entryFrame m #[(.int ty), (.int kk)] maxLocals)) t := fun t kt => by
    refine S26 t ?_
    show Steps p.tables e below (T25.setTop (mkF m 57 #[.val (.int ty), .val (.int kk), .val (.int ((998 : Int32) + ((kk &&& (2147483647 : Int32)) % (10 : Int32)))), .val (.int (own_sl (1000 : Int32))), .val (.int (own_sl (1001 : Int32))), .val (.int (own_sl (1002 : Int32))), .unset, .unset, .unset] [(.int (own_sl (1003 : Int32)))])) t
    refine XS.istore X25.here hx rfl (hb hby at_57) rfl (l' := #[.val (.int ty), .val (.int kk), .val (.int ((998 : Int32) + ((kk &&& (2147483647 : Int32)) % (10 : Int32)))), .val (.int (own_sl (1000 : Int32))), .val (.int (own_sl (1001 : Int32))), .val (.int (own_sl (1002 : Int32))), .val (.int (own_sl (1003 : Int32))), .unset, .unset]) rfl ?_
    show Steps p.tables e below (T25.setTop (mkF m 59 #[.val (.int ty), .val (.int kk), .val (.int ((998 : Int32) + ((kk &&& (2147483647 : Int32)) % (10 : Int32)))), .val (.int (own_sl (1000 : Int32))), .val (.int (own_sl (1001 : Int32))), .val (.int (own_sl (1002 : Int32))), .val (.int (own_sl (1003 : Int32))), .unset, .unset] [])) t
    refine XS.sipush X25.here hx rfl (hb hby at_59) ?_
    exact kt
  obtain ⟨_, _, ⟨T29, L29, k29, n29⟩, -, X29, ⟨Lc29, hQ29, l29, y29, z29⟩, st29⟩ := Jvm.LawKit.callS X25 hx (y := (⟨"com/example/mullion/mullion/policy/Layers", "subLayerOfType", "(I)I"⟩ : MethodName)) hown (mvT hZ (hw _ (List.mem_of_getElem? (i := 5) rfl))) (mvT hZ (hw _ (List.mem_of_getElem? (i := 6) rfl))) (mvT hZ (hw _ (List.mem_of_getElem? (i := 7) rfl))) (mvT hZ (hw _ (List.mem_of_getElem? (i := 8) rfl))) (by decide) (backOf (W := 0) (own_rm2 l Z a0 hw [] ((1004 : Int32)) h0 n0 Z0) hZ (hw _ (List.mem_of_getElem? (i := 8) rfl)) (hw _ (List.mem_of_getElem? (i := 7) rfl)) (by decide) (by decide)) (g := (mkF m 62 #[.val (.int ty), .val (.int kk), .val (.int ((998 : Int32) + ((kk &&& (2147483647 : Int32)) % (10 : Int32)))), .val (.int (own_sl (1000 : Int32))), .val (.int (own_sl (1001 : Int32))), .val (.int (own_sl (1002 : Int32))), .val (.int (own_sl (1003 : Int32))), .unset, .unset] [(.int (1004 : Int32))])) rfl (by rw [hml]; rfl) (argsL := [(.int (1004 : Int32))]) (rest := []) (lenOf own_pd0 rfl) rfl (by show 2 * 0 + _ ≤ _; exact Nat.le_of_eq rfl) (hb hby at_62) (fun _ _ => ⟨rfl, eq23, (by decide : 0 + 0 ≤ _), (by decide : 0 + 0 ≤ _)⟩)
  dsimp only [Pt.U, Pt.locs, Pt.cells, Pt.slots] at X29 l29 y29 z29 st29 hQ29
  subst l29 y29 z29
  obtain ⟨rfl, rfl, eq27⟩ := hQ29
  try rw [List.append_nil] at X29
  have S30 : ∀ t, Steps p.tables e below (T29.setTop (mkF m 65 #[.val (.int ty), .val (.int kk), .val (.int ((998 : Int32) + ((kk &&& (2147483647 : Int32)) % (10 : Int32)))), .val (.int (own_sl (1000 : Int32))), .val (.int (own_sl (1001 : Int32))), .val (.int (own_sl (1002 : Int32))), .val (.int (own_sl (1003 : Int32))), .unset, .unset] [(.int (own_sl (1004 : Int32)))])) t → Steps p.tables e below (s₁.setTop (entryFrame m #[(.int ty), (.int kk)] maxLocals)) t := fun t kt => S28 t (st29 _ kt)
  have S32 : ∀ t, Steps p.tables e below (T29.setTop (mkF m 70 #[.val (.int ty), .val (.int kk), .val (.int ((998 : Int32) + ((kk &&& (2147483647 : Int32)) % (10 : Int32)))), .val (.int (own_sl (1000 : Int32))), .val (.int (own_sl (1001 : Int32))), .val (.int (own_sl (1002 : Int32))), .val (.int (own_sl (1003 : Int32))), .val (.int (own_sl (1004 : Int32))), .unset] [(.int (1005 : Int32))])) t → Steps p.tables e below (s₁.setTop (entryFrame m #[(.int ty), (.int kk)] maxLocals)) t := fun t kt => by
    refine S30 t ?_
    show Steps p.tables e below (T29.setTop (mkF m 65 #[.val (.int ty), .val (.int kk), .val (.int ((998 : Int32) + ((kk &&& (2147483647 : Int32)) % (10 : Int32)))), .val (.int (own_sl (1000 : Int32))), .val (.int (own_sl (1001 : Int32))), .val (.int (own_sl (1002 : Int32))), .val (.int (own_sl (1003 : Int32))), .unset, .unset] [(.int (own_sl (1004 : Int32)))])) t
    refine XS.istore X29.here hx rfl (hb hby at_65) rfl (l' := #[.val (.int ty), .val (.int kk), .val (.int ((998 : Int32) + ((kk &&& (2147483647 : Int32)) % (10 : Int32)))), .val (.int (own_sl (1000 : Int32))), .val (.int (own_sl (1001 : Int32))), .val (.int (own_sl (1002 : Int32))), .val (.int (own_sl (1003 : Int32))), .val (.int (own_sl (1004 : Int32))), .unset]) rfl ?_
    show Steps p.tables e below (T29.setTop (mkF m 67 #[.val (.int ty), .val (.int kk), .val (.int ((998 : Int32) + ((kk &&& (2147483647 : Int32)) % (10 : Int32)))), .val (.int (own_sl (1000 : Int32))), .val (.int (own_sl (1001 : Int32))), .val (.int (own_sl (1002 : Int32))), .val (.int (own_sl (1003 : Int32))), .val (.int (own_sl (1004 : Int32))), .unset] [])) t
    refine XS.sipush X29.here hx rfl (hb hby at_67) ?_
    exact kt
  obtain ⟨_, _, ⟨T33, L33, k33, n33⟩, -, X33, ⟨Lc33, hQ33, l33, y33, z33⟩, st33⟩ := Jvm.LawKit.callS X29 hx (y := (⟨"com/example/mullion/mullion/policy/Layers", "subLayerOfType", "(I)I"⟩ : MethodName)) hown (mvT hZ (hw _ (List.mem_of_getElem? (i := 5) rfl))) (mvT hZ (hw _ (List.mem_of_getElem? (i := 6) rfl))) (mvT hZ (hw _ (List.mem_of_getElem? (i := 7) rfl))) (mvT hZ (hw _ (List.mem_of_getElem? (i := 8) rfl))) (by decide) (backOf (W := 0) (own_rm2 l Z a0 hw [] ((1005 : Int32)) h0 n0 Z0) hZ (hw _ (List.mem_of_getElem? (i := 8) rfl)) (hw _ (List.mem_of_getElem? (i := 7) rfl)) (by decide) (by decide)) (g := (mkF m 70 #[.val (.int ty), .val (.int kk), .val (.int ((998 : Int32) + ((kk &&& (2147483647 : Int32)) % (10 : Int32)))), .val (.int (own_sl (1000 : Int32))), .val (.int (own_sl (1001 : Int32))), .val (.int (own_sl (1002 : Int32))), .val (.int (own_sl (1003 : Int32))), .val (.int (own_sl (1004 : Int32))), .unset] [(.int (1005 : Int32))])) rfl (by rw [hml]; rfl) (argsL := [(.int (1005 : Int32))]) (rest := []) (lenOf own_pd0 rfl) rfl (by show 2 * 0 + _ ≤ _; exact Nat.le_of_eq rfl) (hb hby at_70) (fun _ _ => ⟨rfl, eq27, (by decide : 0 + 0 ≤ _), (by decide : 0 + 0 ≤ _)⟩)
  dsimp only [Pt.U, Pt.locs, Pt.cells, Pt.slots] at X33 l33 y33 z33 st33 hQ33
  subst l33 y33 z33
  obtain ⟨rfl, rfl, eq31⟩ := hQ33
  try rw [List.append_nil] at X33
  have S34 : ∀ t, Steps p.tables e below (T33.setTop (mkF m 73 #[.val (.int ty), .val (.int kk), .val (.int ((998 : Int32) + ((kk &&& (2147483647 : Int32)) % (10 : Int32)))), .val (.int (own_sl (1000 : Int32))), .val (.int (own_sl (1001 : Int32))), .val (.int (own_sl (1002 : Int32))), .val (.int (own_sl (1003 : Int32))), .val (.int (own_sl (1004 : Int32))), .unset] [(.int (own_sl (1005 : Int32)))])) t → Steps p.tables e below (s₁.setTop (entryFrame m #[(.int ty), (.int kk)] maxLocals)) t := fun t kt => S32 t (st33 _ kt)
  have S35 : ∀ t, Steps p.tables e below (T33.setTop (mkF m 79 #[.val (.int ty), .val (.int kk), .val (.int ((998 : Int32) + ((kk &&& (2147483647 : Int32)) % (10 : Int32)))), .val (.int (own_sl (1000 : Int32))), .val (.int (own_sl (1001 : Int32))), .val (.int (own_sl (1002 : Int32))), .val (.int (own_sl (1003 : Int32))), .val (.int (own_sl (1004 : Int32))), .val (.int (own_sl (1005 : Int32)))] [(.int (-2 : Int32)), (.int (own_sl (1001 : Int32)))])) t → Steps p.tables e below (s₁.setTop (entryFrame m #[(.int ty), (.int kk)] maxLocals)) t := fun t kt => by
    refine S34 t ?_
    show Steps p.tables e below (T33.setTop (mkF m 73 #[.val (.int ty), .val (.int kk), .val (.int ((998 : Int32) + ((kk &&& (2147483647 : Int32)) % (10 : Int32)))), .val (.int (own_sl (1000 : Int32))), .val (.int (own_sl (1001 : Int32))), .val (.int (own_sl (1002 : Int32))), .val (.int (own_sl (1003 : Int32))), .val (.int (own_sl (1004 : Int32))), .unset] [(.int (own_sl (1005 : Int32)))])) t
    refine XS.istore X33.here hx rfl (hb hby at_73) rfl (l' := #[.val (.int ty), .val (.int kk), .val (.int ((998 : Int32) + ((kk &&& (2147483647 : Int32)) % (10 : Int32)))), .val (.int (own_sl (1000 : Int32))), .val (.int (own_sl (1001 : Int32))), .val (.int (own_sl (1002 : Int32))), .val (.int (own_sl (1003 : Int32))), .val (.int (own_sl (1004 : Int32))), .val (.int (own_sl (1005 : Int32)))]) rfl ?_
    show Steps p.tables e below (T33.setTop (mkF m 75 #[.val (.int ty), .val (.int kk), .val (.int ((998 : Int32) + ((kk &&& (2147483647 : Int32)) % (10 : Int32)))), .val (.int (own_sl (1000 : Int32))), .val (.int (own_sl (1001 : Int32))), .val (.int (own_sl (1002 : Int32))), .val (.int (own_sl (1003 : Int32))), .val (.int (own_sl (1004 : Int32))), .val (.int (own_sl (1005 : Int32)))] [])) t
    refine XS.iload X33.here hx rfl (hb hby at_75) rfl ?_
    show Steps p.tables e below (T33.setTop (mkF m 77 #[.val (.int ty), .val (.int kk), .val (.int ((998 : Int32) + ((kk &&& (2147483647 : Int32)) % (10 : Int32)))), .val (.int (own_sl (1000 : Int32))), .val (.int (own_sl (1001 : Int32))), .val (.int (own_sl (1002 : Int32))), .val (.int (own_sl (1003 : Int32))), .val (.int (own_sl (1004 : Int32))), .val (.int (own_sl (1005 : Int32)))] [(.int (own_sl (1001 : Int32)))])) t
    refine XS.bipush X33.here hx rfl (hb hby at_77) ?_
    exact kt
  have hc79_36 : ¬ ((own_sl (1001 : Int32)) < (-2 : Int32)) := by decide
  have S37 : ∀ t, Steps p.tables e below (T33.setTop (mkF m 86 #[.val (.int ty), .val (.int kk), .val (.int ((998 : Int32) + ((kk &&& (2147483647 : Int32)) % (10 : Int32)))), .val (.int (own_sl (1000 : Int32))), .val (.int (own_sl (1001 : Int32))), .val (.int (own_sl (1002 : Int32))), .val (.int (own_sl (1003 : Int32))), .val (.int (own_sl (1004 : Int32))), .val (.int (own_sl (1005 : Int32)))] [(.int (own_sl (1004 : Int32))), (.int (own_sl (1001 : Int32)))])) t → Steps p.tables e below (s₁.setTop (entryFrame m #[(.int ty), (.int kk)] maxLocals)) t := fun t kt => by
    refine S35 t ?_
    show Steps p.tables e below (T33.setTop (mkF m 79 #[.val (.int ty), .val (.int kk), .val (.int ((998 : Int32) + ((kk &&& (2147483647 : Int32)) % (10 : Int32)))), .val (.int (own_sl (1000 : Int32))), .val (.int (own_sl (1001 : Int32))), .val (.int (own_sl (1002 : Int32))), .val (.int (own_sl (1003 : Int32))), .val (.int (own_sl (1004 : Int32))), .val (.int (own_sl (1005 : Int32)))] [(.int (-2 : Int32)), (.int (own_sl (1001 : Int32)))])) t
    refine XS.icmpNo X33.here hx rfl (hb hby at_79) rfl (flt hc79_36).1 ?_
    show Steps p.tables e below (T33.setTop (mkF m 82 #[.val (.int ty), .val (.int kk), .val (.int ((998 : Int32) + ((kk &&& (2147483647 : Int32)) % (10 : Int32)))), .val (.int (own_sl (1000 : Int32))), .val (.int (own_sl (1001 : Int32))), .val (.int (own_sl (1002 : Int32))), .val (.int (own_sl (1003 : Int32))), .val (.int (own_sl (1004 : Int32))), .val (.int (own_sl (1005 : Int32)))] [])) t
    refine XS.iload X33.here hx rfl (hb hby at_82) rfl ?_
    show Steps p.tables e below (T33.setTop (mkF m 84 #[.val (.int ty), .val (.int kk), .val (.int ((998 : Int32) + ((kk &&& (2147483647 : Int32)) % (10 : Int32)))), .val (.int (own_sl (1000 : Int32))), .val (.int (own_sl (1001 : Int32))), .val (.int (own_sl (1002 : Int32))), .val (.int (own_sl (1003 : Int32))), .val (.int (own_sl (1004 : Int32))), .val (.int (own_sl (1005 : Int32)))] [(.int (own_sl (1001 : Int32)))])) t
    refine XS.iload X33.here hx rfl (hb hby at_84) rfl ?_
    exact kt
  have hc86_38 : (own_sl (1001 : Int32)) < (own_sl (1004 : Int32)) := by decide
  have S39 : ∀ t, Steps p.tables e below (T33.setTop (mkF m 91 #[.val (.int ty), .val (.int kk), .val (.int ((998 : Int32) + ((kk &&& (2147483647 : Int32)) % (10 : Int32)))), .val (.int (own_sl (1000 : Int32))), .val (.int (own_sl (1001 : Int32))), .val (.int (own_sl (1002 : Int32))), .val (.int (own_sl (1003 : Int32))), .val (.int (own_sl (1004 : Int32))), .val (.int (own_sl (1005 : Int32)))] [(.int (own_sl (1004 : Int32)))])) t → Steps p.tables e below (s₁.setTop (entryFrame m #[(.int ty), (.int kk)] maxLocals)) t := fun t kt => by
    refine S37 t ?_
    show Steps p.tables e below (T33.setTop (mkF m 86 #[.val (.int ty), .val (.int kk), .val (.int ((998 : Int32) + ((kk &&& (2147483647 : Int32)) % (10 : Int32)))), .val (.int (own_sl (1000 : Int32))), .val (.int (own_sl (1001 : Int32))), .val (.int (own_sl (1002 : Int32))), .val (.int (own_sl (1003 : Int32))), .val (.int (own_sl (1004 : Int32))), .val (.int (own_sl (1005 : Int32)))] [(.int (own_sl (1004 : Int32))), (.int (own_sl (1001 : Int32)))])) t
    refine XS.icmpNo X33.here hx rfl (hb hby at_86) rfl (tlt hc86_38).2.1 ?_
    show Steps p.tables e below (T33.setTop (mkF m 89 #[.val (.int ty), .val (.int kk), .val (.int ((998 : Int32) + ((kk &&& (2147483647 : Int32)) % (10 : Int32)))), .val (.int (own_sl (1000 : Int32))), .val (.int (own_sl (1001 : Int32))), .val (.int (own_sl (1002 : Int32))), .val (.int (own_sl (1003 : Int32))), .val (.int (own_sl (1004 : Int32))), .val (.int (own_sl (1005 : Int32)))] [])) t
    refine XS.iload X33.here hx rfl (hb hby at_89) rfl ?_
    exact kt
  have hc91_40 : (own_sl (1004 : Int32)) < (0 : Int32) := by decide
  have S41 : ∀ t, Steps p.tables e below (T33.setTop (mkF m 96 #[.val (.int ty), .val (.int kk), .val (.int ((998 : Int32) + ((kk &&& (2147483647 : Int32)) % (10 : Int32)))), .val (.int (own_sl (1000 : Int32))), .val (.int (own_sl (1001 : Int32))), .val (.int (own_sl (1002 : Int32))), .val (.int (own_sl (1003 : Int32))), .val (.int (own_sl (1004 : Int32))), .val (.int (own_sl (1005 : Int32)))] [(.int (own_sl (1000 : Int32))), (.int (0 : Int32))])) t → Steps p.tables e below (s₁.setTop (entryFrame m #[(.int ty), (.int kk)] maxLocals)) t := fun t kt => by
    refine S39 t ?_
    show Steps p.tables e below (T33.setTop (mkF m 91 #[.val (.int ty), .val (.int kk), .val (.int ((998 : Int32) + ((kk &&& (2147483647 : Int32)) % (10 : Int32)))), .val (.int (own_sl (1000 : Int32))), .val (.int (own_sl (1001 : Int32))), .val (.int (own_sl (1002 : Int32))), .val (.int (own_sl (1003 : Int32))), .val (.int (own_sl (1004 : Int32))), .val (.int (own_sl (1005 : Int32)))] [(.int (own_sl (1004 : Int32)))])) t
    refine XS.ifNo X33.here hx rfl (hb hby at_91) rfl ((if0 _ _).trans (tlt hc91_40).2.1) ?_
    show Steps p.tables e below (T33.setTop (mkF m 94 #[.val (.int ty), .val (.int kk), .val (.int ((998 : Int32) + ((kk &&& (2147483647 : Int32)) % (10 : Int32)))), .val (.int (own_sl (1000 : Int32))), .val (.int (own_sl (1001 : Int32))), .val (.int (own_sl (1002 : Int32))), .val (.int (own_sl (1003 : Int32))), .val (.int (own_sl (1004 : Int32))), .val (.int (own_sl (1005 : Int32)))] [])) t
    refine XS.iconst X33.here hx rfl (hb hby at_94) ?_
    show Steps p.tables e below (T33.setTop (mkF m 95 #[.val (.int ty), .val (.int kk), .val (.int ((998 : Int32) + ((kk &&& (2147483647 : Int32)) % (10 : Int32)))), .val (.int (own_sl (1000 : Int32))), .val (.int (own_sl (1001 : Int32))), .val (.int (own_sl (1002 : Int32))), .val (.int (own_sl (1003 : Int32))), .val (.int (own_sl (1004 : Int32))), .val (.int (own_sl (1005 : Int32)))] [(.int (0 : Int32))])) t
    refine XS.iloadN X33.here hx rfl (hb hby at_95) rfl ?_
    exact kt
  have hc96_42 : (0 : Int32) < (own_sl (1000 : Int32)) := by decide
  have S43 : ∀ t, Steps p.tables e below (T33.setTop (mkF m 102 #[.val (.int ty), .val (.int kk), .val (.int ((998 : Int32) + ((kk &&& (2147483647 : Int32)) % (10 : Int32)))), .val (.int (own_sl (1000 : Int32))), .val (.int (own_sl (1001 : Int32))), .val (.int (own_sl (1002 : Int32))), .val (.int (own_sl (1003 : Int32))), .val (.int (own_sl (1004 : Int32))), .val (.int (own_sl (1005 : Int32)))] [(.int (own_sl (1003 : Int32))), (.int (own_sl (1000 : Int32)))])) t → Steps p.tables e below (s₁.setTop (entryFrame m #[(.int ty), (.int kk)] maxLocals)) t := fun t kt => by
    refine S41 t ?_
    show Steps p.tables e below (T33.setTop (mkF m 96 #[.val (.int ty), .val (.int kk), .val (.int ((998 : Int32) + ((kk &&& (2147483647 : Int32)) % (10 : Int32)))), .val (.int (own_sl (1000 : Int32))), .val (.int (own_sl (1001 : Int32))), .val (.int (own_sl (1002 : Int32))), .val (.int (own_sl (1003 : Int32))), .val (.int (own_sl (1004 : Int32))), .val (.int (own_sl (1005 : Int32)))] [(.int (own_sl (1000 : Int32))), (.int (0 : Int32))])) t
    refine XS.icmpNo X33.here hx rfl (hb hby at_96) rfl (tlt hc96_42).2.1 ?_
    show Steps p.tables e below (T33.setTop (mkF m 99 #[.val (.int ty), .val (.int kk), .val (.int ((998 : Int32) + ((kk &&& (2147483647 : Int32)) % (10 : Int32)))), .val (.int (own_sl (1000 : Int32))), .val (.int (own_sl (1001 : Int32))), .val (.int (own_sl (1002 : Int32))), .val (.int (own_sl (1003 : Int32))), .val (.int (own_sl (1004 : Int32))), .val (.int (own_sl (1005 : Int32)))] [])) t
    refine XS.iloadN X33.here hx rfl (hb hby at_99) rfl ?_
    show Steps p.tables e below (T33.setTop (mkF m 100 #[.val (.int ty), .val (.int kk), .val (.int ((998 : Int32) + ((kk &&& (2147483647 : Int32)) % (10 : Int32)))), .val (.int (own_sl (1000 : Int32))), .val (.int (own_sl (1001 : Int32))), .val (.int (own_sl (1002 : Int32))), .val (.int (own_sl (1003 : Int32))), .val (.int (own_sl (1004 : Int32))), .val (.int (own_sl (1005 : Int32)))] [(.int (own_sl (1000 : Int32)))])) t
    refine XS.iload X33.here hx rfl (hb hby at_100) rfl ?_
    exact kt
  have hc102_44 : (own_sl (1000 : Int32)) = (own_sl (1003 : Int32)) := by decide
  have S45 : ∀ t, Steps p.tables e below (T33.setTop (mkF m 108 #[.val (.int ty), .val (.int kk), .val (.int ((998 : Int32) + ((kk &&& (2147483647 : Int32)) % (10 : Int32)))), .val (.int (own_sl (1000 : Int32))), .val (.int (own_sl (1001 : Int32))), .val (.int (own_sl (1002 : Int32))), .val (.int (own_sl (1003 : Int32))), .val (.int (own_sl (1004 : Int32))), .val (.int (own_sl (1005 : Int32)))] [(.int (own_sl (1002 : Int32))), (.int (own_sl (1000 : Int32)))])) t → Steps p.tables e below (s₁.setTop (entryFrame m #[(.int ty), (.int kk)] maxLocals)) t := fun t kt => by
    refine S43 t ?_
    show Steps p.tables e below (T33.setTop (mkF m 102 #[.val (.int ty), .val (.int kk), .val (.int ((998 : Int32) + ((kk &&& (2147483647 : Int32)) % (10 : Int32)))), .val (.int (own_sl (1000 : Int32))), .val (.int (own_sl (1001 : Int32))), .val (.int (own_sl (1002 : Int32))), .val (.int (own_sl (1003 : Int32))), .val (.int (own_sl (1004 : Int32))), .val (.int (own_sl (1005 : Int32)))] [(.int (own_sl (1003 : Int32))), (.int (own_sl (1000 : Int32)))])) t
    refine XS.icmpNo X33.here hx rfl (hb hby at_102) rfl (teq hc102_44).2 ?_
    show Steps p.tables e below (T33.setTop (mkF m 105 #[.val (.int ty), .val (.int kk), .val (.int ((998 : Int32) + ((kk &&& (2147483647 : Int32)) % (10 : Int32)))), .val (.int (own_sl (1000 : Int32))), .val (.int (own_sl (1001 : Int32))), .val (.int (own_sl (1002 : Int32))), .val (.int (own_sl (1003 : Int32))), .val (.int (own_sl (1004 : Int32))), .val (.int (own_sl (1005 : Int32)))] [])) t
    refine XS.iloadN X33.here hx rfl (hb hby at_105) rfl ?_
    show Steps p.tables e below (T33.setTop (mkF m 106 #[.val (.int ty), .val (.int kk), .val (.int ((998 : Int32) + ((kk &&& (2147483647 : Int32)) % (10 : Int32)))), .val (.int (own_sl (1000 : Int32))), .val (.int (own_sl (1001 : Int32))), .val (.int (own_sl (1002 : Int32))), .val (.int (own_sl (1003 : Int32))), .val (.int (own_sl (1004 : Int32))), .val (.int (own_sl (1005 : Int32)))] [(.int (own_sl (1000 : Int32)))])) t
    refine XS.iload X33.here hx rfl (hb hby at_106) rfl ?_
    exact kt
  have hc108_46 : (own_sl (1000 : Int32)) < (own_sl (1002 : Int32)) := by decide
  have S47 : ∀ t, Steps p.tables e below (T33.setTop (mkF m 115 #[.val (.int ty), .val (.int kk), .val (.int ((998 : Int32) + ((kk &&& (2147483647 : Int32)) % (10 : Int32)))), .val (.int (own_sl (1000 : Int32))), .val (.int (own_sl (1001 : Int32))), .val (.int (own_sl (1002 : Int32))), .val (.int (own_sl (1003 : Int32))), .val (.int (own_sl (1004 : Int32))), .val (.int (own_sl (1005 : Int32)))] [(.int (own_sl (1005 : Int32))), (.int (own_sl (1002 : Int32)))])) t → Steps p.tables e below (s₁.setTop (entryFrame m #[(.int ty), (.int kk)] maxLocals)) t := fun t kt => by
    refine S45 t ?_
    show Steps p.tables e below (T33.setTop (mkF m 108 #[.val (.int ty), .val (.int kk), .val (.int ((998 : Int32) + ((kk &&& (2147483647 : Int32)) % (10 : Int32)))), .val (.int (own_sl (1000 : Int32))), .val (.int (own_sl (1001 : Int32))), .val (.int (own_sl (1002 : Int32))), .val (.int (own_sl (1003 : Int32))), .val (.int (own_sl (1004 : Int32))), .val (.int (own_sl (1005 : Int32)))] [(.int (own_sl (1002 : Int32))), (.int (own_sl (1000 : Int32)))])) t
    refine XS.icmpNo X33.here hx rfl (hb hby at_108) rfl (tlt hc108_46).2.1 ?_
    show Steps p.tables e below (T33.setTop (mkF m 111 #[.val (.int ty), .val (.int kk), .val (.int ((998 : Int32) + ((kk &&& (2147483647 : Int32)) % (10 : Int32)))), .val (.int (own_sl (1000 : Int32))), .val (.int (own_sl (1001 : Int32))), .val (.int (own_sl (1002 : Int32))), .val (.int (own_sl (1003 : Int32))), .val (.int (own_sl (1004 : Int32))), .val (.int (own_sl (1005 : Int32)))] [])) t
    refine XS.iload X33.here hx rfl (hb hby at_111) rfl ?_
    show Steps p.tables e below (T33.setTop (mkF m 113 #[.val (.int ty), .val (.int kk), .val (.int ((998 : Int32) + ((kk &&& (2147483647 : Int32)) % (10 : Int32)))), .val (.int (own_sl (1000 : Int32))), .val (.int (own_sl (1001 : Int32))), .val (.int (own_sl (1002 : Int32))), .val (.int (own_sl (1003 : Int32))), .val (.int (own_sl (1004 : Int32))), .val (.int (own_sl (1005 : Int32)))] [(.int (own_sl (1002 : Int32)))])) t
    refine XS.iload X33.here hx rfl (hb hby at_113) rfl ?_
    exact kt
  have hc115_48 : (own_sl (1002 : Int32)) < (own_sl (1005 : Int32)) := by decide
  have S49 : ∀ t, Steps p.tables e below (T33.setTop (mkF m 121 #[.val (.int ty), .val (.int kk), .val (.int ((998 : Int32) + ((kk &&& (2147483647 : Int32)) % (10 : Int32)))), .val (.int (own_sl (1000 : Int32))), .val (.int (own_sl (1001 : Int32))), .val (.int (own_sl (1002 : Int32))), .val (.int (own_sl (1003 : Int32))), .val (.int (own_sl (1004 : Int32))), .val (.int (own_sl (1005 : Int32)))] [(.int (3 : Int32)), (.int (own_sl (1005 : Int32)))])) t → Steps p.tables e below (s₁.setTop (entryFrame m #[(.int ty), (.int kk)] maxLocals)) t := fun t kt => by
    refine S47 t ?_
    show Steps p.tables e below (T33.setTop (mkF m 115 #[.val (.int ty), .val (.int kk), .val (.int ((998 : Int32) + ((kk &&& (2147483647 : Int32)) % (10 : Int32)))), .val (.int (own_sl (1000 : Int32))), .val (.int (own_sl (1001 : Int32))), .val (.int (own_sl (1002 : Int32))), .val (.int (own_sl (1003 : Int32))), .val (.int (own_sl (1004 : Int32))), .val (.int (own_sl (1005 : Int32)))] [(.int (own_sl (1005 : Int32))), (.int (own_sl (1002 : Int32)))])) t
    refine XS.icmpNo X33.here hx rfl (hb hby at_115) rfl (tlt hc115_48).2.1 ?_
    show Steps p.tables e below (T33.setTop (mkF m 118 #[.val (.int ty), .val (.int kk), .val (.int ((998 : Int32) + ((kk &&& (2147483647 : Int32)) % (10 : Int32)))), .val (.int (own_sl (1000 : Int32))), .val (.int (own_sl (1001 : Int32))), .val (.int (own_sl (1002 : Int32))), .val (.int (own_sl (1003 : Int32))), .val (.int (own_sl (1004 : Int32))), .val (.int (own_sl (1005 : Int32)))] [])) t
    refine XS.iload X33.here hx rfl (hb hby at_118) rfl ?_
    show Steps p.tables e below (T33.setTop (mkF m 120 #[.val (.int ty), .val (.int kk), .val (.int ((998 : Int32) + ((kk &&& (2147483647 : Int32)) % (10 : Int32)))), .val (.int (own_sl (1000 : Int32))), .val (.int (own_sl (1001 : Int32))), .val (.int (own_sl (1002 : Int32))), .val (.int (own_sl (1003 : Int32))), .val (.int (own_sl (1004 : Int32))), .val (.int (own_sl (1005 : Int32)))] [(.int (own_sl (1005 : Int32)))])) t
    refine XS.iconst X33.here hx rfl (hb hby at_120) ?_
    exact kt
  have hc121_50 : ¬ ((3 : Int32) < (own_sl (1005 : Int32))) := by decide
  have S51 : ∀ t, Steps p.tables e below (T33.setTop (mkF m 129 #[.val (.int ty), .val (.int kk), .val (.int ((998 : Int32) + ((kk &&& (2147483647 : Int32)) % (10 : Int32)))), .val (.int (own_sl (1000 : Int32))), .val (.int (own_sl (1001 : Int32))), .val (.int (own_sl (1002 : Int32))), .val (.int (own_sl (1003 : Int32))), .val (.int (own_sl (1004 : Int32))), .val (.int (own_sl (1005 : Int32)))] [(.int (1 : Int32))])) t → Steps p.tables e below (s₁.setTop (entryFrame m #[(.int ty), (.int kk)] maxLocals)) t := fun t kt => by
    refine S49 t ?_
    show Steps p.tables e below (T33.setTop (mkF m 121 #[.val (.int ty), .val (.int kk), .val (.int ((998 : Int32) + ((kk &&& (2147483647 : Int32)) % (10 : Int32)))), .val (.int (own_sl (1000 : Int32))), .val (.int (own_sl (1001 : Int32))), .val (.int (own_sl (1002 : Int32))), .val (.int (own_sl (1003 : Int32))), .val (.int (own_sl (1004 : Int32))), .val (.int (own_sl (1005 : Int32)))] [(.int (3 : Int32)), (.int (own_sl (1005 : Int32)))])) t
    refine XS.icmpNo X33.here hx rfl (hb hby at_121) rfl (flt hc121_50).2.2.1 ?_
    show Steps p.tables e below (T33.setTop (mkF m 124 #[.val (.int ty), .val (.int kk), .val (.int ((998 : Int32) + ((kk &&& (2147483647 : Int32)) % (10 : Int32)))), .val (.int (own_sl (1000 : Int32))), .val (.int (own_sl (1001 : Int32))), .val (.int (own_sl (1002 : Int32))), .val (.int (own_sl (1003 : Int32))), .val (.int (own_sl (1004 : Int32))), .val (.int (own_sl (1005 : Int32)))] [])) t
    refine XS.iconst X33.here hx rfl (hb hby at_124) ?_
    show Steps p.tables e below (T33.setTop (mkF m 125 #[.val (.int ty), .val (.int kk), .val (.int ((998 : Int32) + ((kk &&& (2147483647 : Int32)) % (10 : Int32)))), .val (.int (own_sl (1000 : Int32))), .val (.int (own_sl (1001 : Int32))), .val (.int (own_sl (1002 : Int32))), .val (.int (own_sl (1003 : Int32))), .val (.int (own_sl (1004 : Int32))), .val (.int (own_sl (1005 : Int32)))] [(.int (1 : Int32))])) t
    refine XS.goto X33.here hx rfl (pc0 := 125) (pc' := 129) rfl (hb hby at_125) (by decide) (by decide) ?_
    exact kt
  obtain ⟨fs, hr, hrun, hended, hW, hsame⟩ := X33.leave (v := some (.int (nar .boolean (1 : Int32)))) (fun h => by rw [Bd.returns] at h; cases h)
  refine ⟨_, _, S51 _ ?_, hrun, hended, _, _, rfl, ?_, ⟨_, rfl⟩, hW, hsame.mono (by decide) (by decide)⟩
  · show Steps p.tables e below (T33.setTop (mkF m 129 #[.val (.int ty), .val (.int kk), .val (.int ((998 : Int32) + ((kk &&& (2147483647 : Int32)) % (10 : Int32)))), .val (.int (own_sl (1000 : Int32))), .val (.int (own_sl (1001 : Int32))), .val (.int (own_sl (1002 : Int32))), .val (.int (own_sl (1003 : Int32))), .val (.int (own_sl (1004 : Int32))), .val (.int (own_sl (1005 : Int32)))] [(.int (1 : Int32))])) _
    exact retN X33 hx (t := .boolean) Bd.returns (by simp) (hb hby at_129) hr
  · show own_Q0 Z ty kk h0 n0 _ T33.heap _
    rw [eq31]
    exact ⟨rfl, N0⟩
set_option maxHeartbeats 40000000 in
theorem own_comes {Post : Tables → Env → Array Value → State → Outcome → State → Prop} (hpost : ∀ tb e args s v u, (limb_1_1.after args s (.returned v) u = true ∧ limb_1_2.after args s (.returned v) u = true ∧ True) → FrameEnd s (.returned v) u (Jvm.fieldLocs frame_1_writes args s ++ Jvm.arrayLocs frame_1_arrays args s ++ Jvm.staticLocs frame_1_statics s) 0 0 → Post tb e args s (.returned v) u) :
    ArmFor flags0 classFile x code maxLocals ret World_1 tables_1 room_1 Calls_1 rest_1 Pre_1 Post := by
  intro l hfl _ _ p e ha hc hk s m args below hf hA hF happ hP
  obtain ⟨hcalls, hrest, hpre⟩ := hP
  obtain ⟨-, -, -, hnamed, -, -, -, hat⟩ := (Spec.applies_iff hf).mp happ
  obtain ⟨hg, hn⟩ := and_e (Cond.before_iff.mp (show (Jvm.Cond.and given_1 narrow_1).before args s = true from hpre))
  obtain ⟨g1, g2⟩ := and_e hg
  obtain ⟨g3, g4⟩ := and_e g2
  obtain ⟨w0, w1, rfl⟩ : ∃ w0 w1 : Value, args = #[w0, w1] := by
    have hs : args.size = 2 := by simpa [Cond.value, given_1] using g1
    obtain ⟨L⟩ := args
    match L, hs with
    | [w0, w1], _ => exact ⟨w0, w1, rfl⟩
  have hw := fun d (hd : d ∈ tables_1) => atoms_spec (ws := Jvm.Cond.code x code maxLocals ret :: tables_1) hat d (List.mem_cons_of_mem _ hd)
  have hfit : Fit s := fun {y c} hc i hi => by
    obtain ⟨ha, rfl⟩ := Array.getElem?_eq_some_iff.mp hc
    have q := List.all_eq_true.mp ((Array.all_eq_true_iff_forall_mem.mp hF) _ (Array.getElem_mem ha)) i (List.mem_range.mpr hi)
    simpa [Array.getElem?_eq_getElem hi] using q
  obtain ⟨i0, ei0⟩ := is_v g3
  obtain rfl : w0 = (.int i0) := Option.some.inj ei0
  obtain ⟨i1, ei1⟩ := is_v g4
  obtain rfl : w1 = (.int i1) := Option.some.inj ei1
  obtain ⟨n, o, h1, h2, h3, _, L, rfl, ⟨rfl, N⟩, hq⟩ := own_rm0 l s _ hw tables_1 i0 i1  s.heap s.heap.size (Nat.le_refl _)  p e ha hc hk s m _ below hf ((Spec.applies_iff_loose hf).mp happ).1 ⟨rfl, State.Warmed39.refl s, rfl⟩ trivial
  refine ⟨n, _, h1, h2, h3, hpost _ _ _ _ _ _ ⟨Cond.after_iff.mpr rfl, Cond.after_iff.mpr (eq_i res_at (Term.int_eval (1)) rfl), trivial⟩ ⟨hq.1, hq.2.1, (hq.2.2.sift fun y hy => Or.inr (N y hy)).mono (by decide) (by decide)⟩⟩
theorem main_1_1 : Claimed_1_1 := own_comes fun _ _ _ _ _ _ h hF => ⟨h.1, hF⟩
theorem main_1_2 : Claimed_1_2 := own_comes fun _ _ _ _ _ _ h hF => ⟨h.2.1, hF⟩
end Jvm.Pilot.@@N@@
namespace Jvm.Pilot.@@N@@
open Jvm Jvm.ClassFile Sem Op Lib Jvm.Free Jvm.Stand Jvm.Pilot.@@N@@.Jvm.D
/-! MADE BY PROGRAM (witnessworld.py) out of the Statement's table words and the real class files: 9 classes; the members and pool entries that the words name. The judged class is class 1, her method 2. -/
namespace start1
open Jvm.ClassFile
def u (s : String) : CpInfo := .utf8 (stringToUtf16 s)
/-- a pool by its gaps: so many unusable entries, then the entry; so many at the end -/
def gap : Nat → List CpInfo → List CpInfo
  | 0, r => r
  | n + 1, r => .unusable :: gap n r
def poolList (es : List (Nat × CpInfo)) (last : Nat) : List CpInfo := es.foldr (fun e r => gap e.1 (e.2 :: r)) (gap last [])
def pool (es : List (Nat × CpInfo)) (last : Nat) : Array CpInfo := ⟨poolList es last⟩
def fileOf (pool : Array CpInfo) (this : Nat) (attrs : Array Attribute := #[]) (ms : Array MethodInfo := #[]) (fl : Nat := 33) (sup : Nat := 0) (ifs : Array Nat := #[]) (fds : Array FieldInfo := #[]) : ClassFile where
  minorVersion := 0
  majorVersion := 65
  constantPool := pool
  accessFlags := fl
  thisClass := this
  superClass := sup
  interfaces := ifs
  fields := fds
  methods := ms
  attributes := attrs
def plain (name : String) (sup : Option ClassId) : Class where
  name := name
  kind := .ordinary
  loader := none
  accessFlags := 33
  super := sup
  interfaces := #[]
  cf := none
  fields := #[]
  methods := #[]
  instanceTypes := #[]
  staticTypes := #[]
  resolved := #[]
  callSites := []
  init := .initialized
  statics := none
  mirror := none

def pool0 : Array CpInfo := pool [(5, u "<init>"), (0, u "()V"), (1, .class_ 10), (1, u "java/lang/Object")] 113

def k0m0 : Method := { name := "<init>", desc := "()V", sig := { parameters := [], returnType := none }, accessFlags := 1, code := none }
/-- java/lang/Object -/
def k0 : Class := { plain "java/lang/Object" none with
  accessFlags := 33
  interfaces := #[]
  cf := some (fileOf pool0 8 #[] #[{ accessFlags := 1, nameIndex := 5, descriptorIndex := 6, attributes := #[] }] 33 0 #[] #[])
  fields := #[]
  methods := #[k0m0]
  instanceTypes := #[]
  staticTypes := #[]
  resolved := Array.replicate 124 none
  statics := none }

def pool1 : Array CpInfo := pool [(2, .class_ 4), (1, u "java/lang/Object"), (0, u "<init>"), (0, u "()V"), (0, .methodref 8 9), (0, .class_ 10), (0, .nameAndType 11 12), (0, u "com/example/mullion/mullion/policy/Layers"), (0, u "subLayerOfType"), (0, u "(I)I"), (0, .integer 2147483647), (0, .methodref 15 16), (0, .class_ 17), (0, .nameAndType 18 19), (0, u "com/example/mullion/mullion/policy/LayersSubLayerOfTypePinLaw"), (0, u "ok"), (0, u "(I)Z"), (3, u "law"), (0, u "(II)Z")] 2

def k1m0 : Method := { name := "<init>", desc := "()V", sig := { parameters := [], returnType := none }, accessFlags := 2, code := none }
def k1c1 : Code := { maxStack := 2, maxLocals := 2, code := method_2_code, exceptionTable := #[], attributes := #[] }
def k1m1 : Method := { name := "ok", desc := "(I)Z", sig := { parameters := [.int], returnType := some .boolean }, accessFlags := 10, code := some k1c1 }
def k1c2 : Code := { maxStack := 3, maxLocals := 9, code := code, exceptionTable := #[], attributes := #[] }
def k1m2 : Method := { name := "law", desc := "(II)Z", sig := { parameters := [.int, .int], returnType := some .boolean }, accessFlags := 9, code := some k1c2 }
/-- com/example/mullion/mullion/policy/LayersSubLayerOfTypePinLaw -/
def k1 : Class := { plain "com/example/mullion/mullion/policy/LayersSubLayerOfTypePinLaw" (some 0) with
  accessFlags := 49
  interfaces := #[]
  cf := some (fileOf pool1 15 #[] #[{ accessFlags := 2, nameIndex := 5, descriptorIndex := 6, attributes := #[] }, { accessFlags := 10, nameIndex := 18, descriptorIndex := 19, attributes := #[] }, { accessFlags := 9, nameIndex := 23, descriptorIndex := 24, attributes := #[] }] 49 2 #[] #[])
  fields := #[]
  methods := #[k1m0, k1m1, k1m2]
  instanceTypes := #[]
  staticTypes := #[]
  resolved := Array.replicate 27 none
  statics := none }

def pool2 : Array CpInfo := pool [(2, .class_ 4), (1, u "java/lang/Object"), (0, u "<init>"), (0, u "()V"), (0, .class_ 8), (0, u "com/example/mullion/mullion/policy/Layers"), (0, u "SLOTS"), (0, u "I"), (2, u "TASKS"), (1, u "IME_LOWEST"), (1, u "IME_HIGHEST"), (1, u "BASE_LAYER_STEP"), (1, u "BASE_LAYER_OFFSET"), (6, u "subLayerOfType"), (0, u "(I)I")] 3

def k2m0 : Method := { name := "<init>", desc := "()V", sig := { parameters := [], returnType := none }, accessFlags := 2, code := none }
def k2c1 : Code := { maxStack := 1, maxLocals := 1, code := prog_36_method_3_code, exceptionTable := #[], attributes := #[] }
def k2m1 : Method := { name := "subLayerOfType", desc := "(I)I", sig := { parameters := [.int], returnType := some .int }, accessFlags := 9, code := some k2c1 }
/-- com/example/mullion/mullion/policy/Layers -/
def k2 : Class := { plain "com/example/mullion/mullion/policy/Layers" (some 0) with
  accessFlags := 49
  interfaces := #[]
  cf := some (fileOf pool2 7 #[] #[{ accessFlags := 2, nameIndex := 5, descriptorIndex := 6, attributes := #[] }, { accessFlags := 9, nameIndex := 28, descriptorIndex := 29, attributes := #[] }] 49 2 #[] #[{ accessFlags := 25, nameIndex := 9, descriptorIndex := 10, attributes := #[] }, { accessFlags := 25, nameIndex := 13, descriptorIndex := 10, attributes := #[] }, { accessFlags := 25, nameIndex := 15, descriptorIndex := 10, attributes := #[] }, { accessFlags := 25, nameIndex := 17, descriptorIndex := 10, attributes := #[] }, { accessFlags := 26, nameIndex := 19, descriptorIndex := 10, attributes := #[] }, { accessFlags := 26, nameIndex := 21, descriptorIndex := 10, attributes := #[] }])
  fields := #[{ name := "SLOTS", type := .int, accessFlags := 25, slot := 0, constantValue := 0 }, { name := "TASKS", type := .int, accessFlags := 25, slot := 1, constantValue := 0 }, { name := "IME_LOWEST", type := .int, accessFlags := 25, slot := 2, constantValue := 0 }, { name := "IME_HIGHEST", type := .int, accessFlags := 25, slot := 3, constantValue := 0 }, { name := "BASE_LAYER_STEP", type := .int, accessFlags := 26, slot := 4, constantValue := 0 }, { name := "BASE_LAYER_OFFSET", type := .int, accessFlags := 26, slot := 5, constantValue := 0 }]
  methods := #[k2m0, k2m1]
  instanceTypes := #[]
  staticTypes := #[.int, .int, .int, .int, .int, .int]
  resolved := Array.replicate 33 none
  statics := none }

def pool3 : Array CpInfo := pool [(1, u "java/lang/Cloneable"), (0, .class_ 1), (0, u "java/lang/Object"), (0, .class_ 3)] 3

/-- java/lang/Cloneable -/
def k3 : Class := { plain "java/lang/Cloneable" (some 0) with
  accessFlags := 1537
  interfaces := #[]
  cf := some (fileOf pool3 2 #[] #[] 1537 4 #[] #[])
  fields := #[]
  methods := #[]
  instanceTypes := #[]
  staticTypes := #[]
  resolved := Array.replicate 8 none
  statics := none }

def pool4 : Array CpInfo := pool [(1, u "java/io/Serializable"), (0, .class_ 1), (0, u "java/lang/Object"), (0, .class_ 3)] 3

/-- java/io/Serializable -/
def k4 : Class := { plain "java/io/Serializable" (some 0) with
  accessFlags := 1537
  interfaces := #[]
  cf := some (fileOf pool4 2 #[] #[] 1537 4 #[] #[])
  fields := #[]
  methods := #[]
  instanceTypes := #[]
  staticTypes := #[]
  resolved := Array.replicate 8 none
  statics := none }

/-- the primitive byte -/
def k5 : Class := { plain "byte" none with kind := .primitive 'B', accessFlags := 0x411 }
/-- [B -/
def k6 : Class := { plain "[B" (some 0) with kind := .array 5 .byte, interfaces := #[3, 4], accessFlags := 1041 }

/-- the primitive int -/
def k7 : Class := { plain "int" none with kind := .primitive 'I', accessFlags := 0x411 }
/-- [I -/
def k8 : Class := { plain "[I" (some 0) with kind := .array 7 .int, interfaces := #[3, 4], accessFlags := 1041 }

def heap : Heap := #[]
def classes : Array Class := #[k0, k1, k2, k3, k4, k5, k6, k7, k8]
def interned : List (Array UInt16 × Addr) := []
def slotsUsed : Nat := 0
def theMethod : MethodId := ⟨1, 2⟩
def args0 : Array Value := #[.int 1003, .int 7]
def aboutOver (below : List Frame) : State where
  vm := { classes := classes, interned := interned.toArray }
  heap := heap
  slotsUsed := slotsUsed
  threads := #[{ frames := .invoking theMethod args0 :: below }]
def below0 : List Frame := [.native { method := ⟨0, 0⟩, args := #[] }]
def about1 : State := aboutOver below0
def p0 : Program := .bare "" "" ""
def e0 : Env := launch0.env 0 0 0
theorem w_frames : about1.frames = Frame.invoking theMethod args0 :: below0 := rfl
set_option maxRecDepth 65536 in
theorem w_args : argsFit about1.vm theMethod args0 = true := by decide +kernel
set_option maxRecDepth 65536 in
theorem w_heap : heapFits about1 = true := by decide +kernel
set_option maxRecDepth 65536 in
theorem w_runnable : about1.curStatus? = some .runnable := by decide +kernel
set_option maxRecDepth 65536 in
theorem w_alone : about1.alone = true := by decide +kernel
set_option maxRecDepth 65536 in
theorem w_named : about1.methodNamed? x = some theMethod := by decide +kernel
set_option maxRecDepth 65536 in
theorem w_hears : about1.hears theMethod below0 = true := by decide +kernel
set_option maxRecDepth 65536 in
theorem w_ripe : about1.ripe theMethod args0 below0 = true := by decide +kernel
theorem w_running : about1.status = .running := rfl
set_option maxRecDepth 65536 in
theorem w_room : about1.hasRoom e0.platform room_1 = true :=
  launch0.hasRoom_least _ room_1 (by decide +kernel) (by decide +kernel) (by decide +kernel) (by decide +kernel) (by decide +kernel) (by decide +kernel)
theorem allAtoms_all (ts : List Jvm.Cond) (a : Array Jvm.Value) (st : Jvm.State) : (allAtoms ts).before a st = ts.all (fun c => c.before a st) := by
  induction ts with
  | nil => rfl
  | cons c t ih =>
    show (Jvm.Cond.and c (allAtoms t)).before a st = _
    rw [Jvm.Cond.before_and, ih, List.all_cons]
def words1 : List Jvm.Cond := Jvm.Cond.code x code maxLocals ret :: tables_1
/-- a 'code' word, met by the world's own term for the bytes: nothing is compared byte by byte -/
theorem code_word {y : MethodName} {bytes : ByteArray} {mx : Nat} {rt : Option FieldType} {a : Array Value} {s : State} {m : MethodId} {meth : Method} {c : Code} (h1 : s.methodNamed? y = some m) (h2 : s.vm.method? m = some meth) (h3 : meth.code = some c) (h4 : c.code = bytes)
    (h5 : (c.maxLocals == mx && c.exceptionTable.isEmpty && decide (c.maxStack ≤ mostOperands) && decide (meth.sig.returnType = rt) && !meth.locks && decide (parseMethodDescriptor y.desc = some meth.sig)) = true) : (Jvm.Cond.code y bytes mx rt).before a s = true := by
  simp only [Bool.and_eq_true, beq_iff_eq, Bool.not_eq_true', decide_eq_true_eq] at h5
  obtain ⟨⟨⟨⟨⟨g1, g2⟩, g3⟩, g4⟩, g5⟩, g6⟩ := h5
  simp [Cond.before, Cond.holds, Cond.value, h1, h2, h3, h4, g1, g2, g3, g4, g5, g6]
def isCode : Jvm.Cond → Bool
  | .code _ _ _ _ => true
  | _ => false
theorem all_split {L : List Jvm.Cond} {P : Jvm.Cond → Bool} (h1 : L.all (fun c => isCode c || P c) = true) (h2 : ∀ c ∈ L.filter isCode, P c = true) : L.all P = true := by
  refine List.all_eq_true.mpr fun c hc => ?_
  have h := List.all_eq_true.mp h1 c hc
  rcases Bool.eq_false_or_eq_true (isCode c) with hi | hi
  · exact h2 c (List.mem_filter.mpr ⟨hc, hi⟩)
  · simpa [hi] using h
set_option maxRecDepth 65536 in
theorem w_c0 : (Jvm.Cond.code x code maxLocals ret).before args0 about1 = true := code_word (m := ⟨1, 2⟩) (meth := k1m2) (c := k1c2) (by decide +kernel) rfl rfl rfl (by decide +kernel)
set_option maxRecDepth 65536 in
theorem w_c1 : (Jvm.Cond.code ({ cls := "com/example/mullion/mullion/policy/LayersSubLayerOfTypePinLaw", name := "ok", desc := "(I)Z" } : Jvm.MethodName) method_2_code (2 : Nat) (Option.some Jvm.ClassFile.FieldType.boolean)).before args0 about1 = true := code_word (m := ⟨1, 1⟩) (meth := k1m1) (c := k1c1) (by decide +kernel) rfl rfl rfl (by decide +kernel)
set_option maxRecDepth 65536 in
theorem w_c2 : (Jvm.Cond.code ({ cls := "com/example/mullion/mullion/policy/Layers", name := "subLayerOfType", desc := "(I)I" } : Jvm.MethodName) prog_36_method_3_code (1 : Nat) (Option.some Jvm.ClassFile.FieldType.int)).before args0 about1 = true := code_word (m := ⟨2, 1⟩) (meth := k2m1) (c := k2c1) (by decide +kernel) rfl rfl rfl (by decide +kernel)
def codes1 : List Jvm.Cond := [Jvm.Cond.code x code maxLocals ret, Jvm.Cond.code ({ cls := "com/example/mullion/mullion/policy/LayersSubLayerOfTypePinLaw", name := "ok", desc := "(I)Z" } : Jvm.MethodName) method_2_code (2 : Nat) (Option.some Jvm.ClassFile.FieldType.boolean), Jvm.Cond.code ({ cls := "com/example/mullion/mullion/policy/Layers", name := "subLayerOfType", desc := "(I)I" } : Jvm.MethodName) prog_36_method_3_code (1 : Nat) (Option.some Jvm.ClassFile.FieldType.int)]
set_option maxRecDepth 65536 in
theorem codes_eq : words1.filter isCode = codes1 := rfl
theorem w_codes : ∀ c ∈ words1.filter isCode, c.before args0 about1 = true := by
  rw [codes_eq]
  intro c hc
  simp only [codes1, List.mem_cons, List.not_mem_nil, or_false] at hc
  rcases hc with rfl | rfl | rfl
  · exact w_c0
  · exact w_c1
  · exact w_c2
set_option maxRecDepth 65536 in
theorem w_t1 : words1.all (fun c => isCode c || c.before args0 about1) = true := by decide +kernel
theorem w_tables : (allAtoms (Jvm.Cond.code x code maxLocals ret :: tables_1)).before args0 about1 = true := by
  rw [allAtoms_all]
  show words1.all (fun c => c.before args0 about1) = true
  refine all_split ?_ w_codes
  rw [w_t1]
set_option maxRecDepth 65536 in
theorem w_case : (Jvm.Cond.and given_1 narrow_1).before args0 about1 = true := by decide +kernel
theorem w_applies : (headSpec (Jvm.Cond.code x code maxLocals ret :: tables_1) room_1).applies x e0.platform about1 = true :=
  (Spec.applies_iff w_frames).mpr ⟨w_running, w_runnable, w_alone, w_named, w_hears, w_ripe, w_room, w_tables⟩
theorem atStart : AtStart classFile x code maxLocals ret World_1 tables_1 room_1 Calls_1 rest_1 Pre_1 launch0 p0 e0 about1 theMethod args0 below0 :=
  ⟨lists_1, trivial, launch0.admits_env _ _ _, launch0.least_env, fairChoices_fair.cas, fairChoices_fair.clock, w_frames, w_args, w_heap, w_applies, trivial, trivial, w_case⟩
end start1
theorem witness_1 : WitnessClaimed_1 := ⟨start1.p0, start1.e0, start1.about1, start1.theMethod, start1.args0, start1.below0, start1.atStart⟩
end Jvm.Pilot.@@N@@
