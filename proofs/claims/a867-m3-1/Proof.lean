import JvmDerived
import JvmDerived.Pilot.@@N@@Statement
import JvmDerived.Pilot.@@N@@Code
set_option linter.unusedVariables false
set_option linter.unusedSimpArgs false
set_option maxRecDepth 65536
namespace Jvm.Pilot.@@N@@
open Jvm Jvm.ClassFile Sem Op Lib Jvm.Free Jvm.Stand Jvm.LawKit Jvm.RoadKit Bundle Jvm.Pilot.@@N@@.Jvm.D
section OwnKit
variable {p : Program} {l : Launch} {e : Env} {R : Room} {s : State} {m : MethodId} {args : Array Value} {below : List Frame} {meth : Method} {c : Code} {T : State} {locs : List Loc} {cells slots : Nat}
theorem own_retI (X : Stand p l e R s m args below meth c T locs cells slots) (hx : p.tables.exec = Jvm.exec) {pc : Nat} {Ls : Array Slot} {z : Int32} {rest : List Value} (hret : meth.sig.returnType = some .int) (hd : decode c.code pc = .ok (.ireturn, 1)) {fs : List Frame}
    (hl : ∀ (f : JFrame) (acts : List Action), f.method = m → f.locked = none → f.entered = [] → (doReturn e (T.setTop f) acts (some (.int z))).1 = T.setFrames fs) : Steps p.tables e below (T.setTop (mkF m pc Ls (.int z :: rest))) (T.setFrames fs) := by
  have hm' : T.vm.method? m = some meth := X.method'
  have hn : narrow .int (.int z) = .int z := rfl
  show Steps p.tables e below (T.setTop { method := m, pc := pc, locals := Ls, stack := _ :: rest, locked := none }) _
  jvm_step X.here [X.here.top, hx, hd, hm', hret, hn]
  first | (intro acts; rw [hl _ acts rfl rfl rfl]) | rw [hl _ _ rfl rfl rfl]
  exact Steps.refl _
/-- where the run stands, with the same writes and figures as at X -/
abbrev own_like (_ : Stand p l e R s m args below meth c T locs cells slots) (T' : State) : Prop := Stand p l e R s m args below meth c T' locs cells slots
end OwnKit
theorem own_Llt {a b : Int64} (h : a < b) : ifCond.holds .lt (lcmpW a b) = true ∧ ifCond.holds .ge (lcmpW a b) = false ∧ ifCond.holds .gt (lcmpW b a) = true ∧ ifCond.holds .le (lcmpW b a) = false := by
  simp only [if0]
  exact ⟨(tlt ((lw_lt a b).mpr h)).1, (tlt ((lw_lt a b).mpr h)).2.1, (tlt ((lw_gt b a).mpr h)).2.2.1, (tlt ((lw_gt b a).mpr h)).2.2.2⟩
theorem own_Lnl {a b : Int64} (h : ¬ a < b) : ifCond.holds .lt (lcmpW a b) = false ∧ ifCond.holds .ge (lcmpW a b) = true ∧ ifCond.holds .gt (lcmpW b a) = false ∧ ifCond.holds .le (lcmpW b a) = true := by
  simp only [if0]
  have h1 : ¬ lcmpW a b < 0 := fun q => h ((lw_lt a b).mp q)
  have h2 : ¬ 0 < lcmpW b a := fun q => h ((lw_gt b a).mp q)
  exact ⟨(flt h1).1, (flt h1).2.1, (flt h2).2.2.1, (flt h2).2.2.2⟩
theorem own_Leq {a b : Int64} (h : a = b) : ifCond.holds .eq (lcmpW a b) = true ∧ ifCond.holds .ne (lcmpW a b) = false := by
  simp only [if0]
  exact teq ((lw_eq a b).mpr h)
theorem own_Lne {a b : Int64} (h : ¬ a = b) : ifCond.holds .eq (lcmpW a b) = false ∧ ifCond.holds .ne (lcmpW a b) = true := by
  simp only [if0]
  exact feq fun q => h ((lw_eq a b).mp q)
theorem own_StaK {Z : State} {h h' : Heap} {C n d : String} {v : Value} {ws : List Addr} (F : Sta Z h C n d v) (K : Keep h h' ws) (q : ∀ x ∈ ws, ∃ c : Cell, h[x]? = some c ∧ c.vm.isStatics = false) : Sta Z h' C n d v := by
  obtain ⟨cf, i, k, f, st, cell, h1, h2, h3, h4, h5, h6, h7⟩ := F
  refine ⟨cf, i, k, f, st, cell, h1, h2, h3, h4, K.2.1 st cell h5 (fun hm => ?_), h6, h7⟩
  obtain ⟨c, e1, e2⟩ := q _ hm
  rw [h5] at e1
  cases e1
  rw [h6] at e2
  cases e2
theorem own_ExaS {Z : State} {h : Heap} {a : Addr} {C : String} (E : Exa Z h a C) : ∃ c : Cell, h[a]? = some c ∧ c.vm.isStatics = false := by
  obtain ⟨c, k, e1, -, -, e2, -⟩ := E
  exact ⟨c, e1, e2⟩
/-- a boolean as the JVM's int -/
def own_b (b : Bool) : Int32 := if b then 1 else 0
theorem own_b_t : own_b true = 1 := rfl
theorem own_b_f : own_b false = 0 := rfl
theorem own_b0 {b : Bool} : own_b b = 0 ↔ b = false := by cases b <;> decide
theorem own_b_inj {b c : Bool} : own_b b = own_b c ↔ b = c := by cases b <;> cases c <;> decide
theorem own_leafT {b : Bool} (h : b = true) : (some (.int (nar .boolean (1 : Int32))) : Option Value) = some (.int (own_b b)) := by subst h; rfl
theorem own_leafF {b : Bool} (h : b = false) : (some (.int (nar .boolean (0 : Int32))) : Option Value) = some (.int (own_b b)) := by subst h; rfl
theorem own_bt {b : Bool} (h : b = true) : (1 : Int32) = own_b b := by subst h; rfl
theorem own_bf {b : Bool} (h : b = false) : (0 : Int32) = own_b b := by subst h; rfl
theorem own_b_nar (b : Bool) : nar .boolean (own_b b) = own_b b := by cases b <;> rfl
def own_isNS (c : Int32) : Bool := decide ((¬ c < (97 : Int32) ∧ ¬ (122 : Int32) < c) ∨ (¬ c < (65 : Int32) ∧ ¬ (90 : Int32) < c) ∨ c = (95 : Int32))
def own_ex (c : Int32) : Bool := decide (¬ c < (64 : Int32) ∧ c < (128 : Int32) ∧ ¬ ((((576460745995190270 : Int64).toUInt64 >>> ((c - (64 : Int32)) &&& 0x3f).toInt64.toUInt64).toInt64) &&& (1 : Int64)) = (0 : Int64))
theorem own_in : ∀ k : Fin 64, own_isNS (Int32.ofInt (64 + (k.val : Int))) = own_ex (Int32.ofInt (64 + (k.val : Int))) := by decide +kernel
theorem own_plain (c : Int32) : own_isNS c = own_ex c := by
  have h64 : (64 : Int32).toInt = 64 := rfl
  have h128 : (128 : Int32).toInt = 128 := rfl
  by_cases h1 : c < (64 : Int32)
  · have e2 : own_ex c = false := by simp [own_ex, h1]
    have q := Int32.lt_iff_toInt_lt.mp h1
    have a1 : c < (97 : Int32) := Int32.lt_iff_toInt_lt.mpr (by have : (97 : Int32).toInt = 97 := rfl; omega)
    have a2 : c < (65 : Int32) := Int32.lt_iff_toInt_lt.mpr (by have : (65 : Int32).toInt = 65 := rfl; omega)
    have a3 : ¬ c = (95 : Int32) := fun e => by subst e; exact absurd h1 (by decide)
    rw [e2]; simp [own_isNS, a1, a2, a3]
  · by_cases h2 : c < (128 : Int32)
    · have q1 : ¬ c.toInt < 64 := fun q => h1 (Int32.lt_iff_toInt_lt.mpr (by rw [h64]; exact q))
      have q2 := Int32.lt_iff_toInt_lt.mp h2
      rw [h128] at q2
      have hk : (c.toInt - 64).toNat < 64 := by omega
      have e := own_in ⟨(c.toInt - 64).toNat, hk⟩
      have e' : Int32.ofInt (64 + (((c.toInt - 64).toNat : Nat) : Int)) = c := by
        rw [show (64 + (((c.toInt - 64).toNat : Nat) : Int)) = c.toInt by omega]
        exact Int32.ofInt_toInt c
      dsimp only at e
      rw [e'] at e
      exact e
    · have e2 : own_ex c = false := by simp [own_ex, h2]
      have q : ¬ c.toInt < 128 := fun q => h2 (Int32.lt_iff_toInt_lt.mpr (by rw [h128]; exact q))
      have a1 : (122 : Int32) < c := Int32.lt_iff_toInt_lt.mpr (by have : (122 : Int32).toInt = 122 := rfl; omega)
      have a2 : (90 : Int32) < c := Int32.lt_iff_toInt_lt.mpr (by have : (90 : Int32).toInt = 90 := rfl; omega)
      have a3 : ¬ c = (95 : Int32) := fun e => by subst e; exact h2 (by decide)
      rw [e2]; simp [own_isNS, a1, a2, a3]
theorem own_d1_0 : decode prog_81_method_3_code 0 = .ok (.iload_n 0, 1) := by decide +kernel
theorem own_d1_1 : decode prog_81_method_3_code 1 = .ok (.bipush 97, 2) := by decide +kernel
theorem own_d1_3 : decode prog_81_method_3_code 3 = .ok (.if_icmp .lt 9, 3) := by decide +kernel
theorem own_d1_6 : decode prog_81_method_3_code 6 = .ok (.iload_n 0, 1) := by decide +kernel
theorem own_d1_7 : decode prog_81_method_3_code 7 = .ok (.bipush 122, 2) := by decide +kernel
theorem own_d1_9 : decode prog_81_method_3_code 9 = .ok (.if_icmp .le 21, 3) := by decide +kernel
theorem own_d1_12 : decode prog_81_method_3_code 12 = .ok (.iload_n 0, 1) := by decide +kernel
theorem own_d1_13 : decode prog_81_method_3_code 13 = .ok (.bipush 65, 2) := by decide +kernel
theorem own_d1_15 : decode prog_81_method_3_code 15 = .ok (.if_icmp .lt 9, 3) := by decide +kernel
theorem own_d1_18 : decode prog_81_method_3_code 18 = .ok (.iload_n 0, 1) := by decide +kernel
theorem own_d1_19 : decode prog_81_method_3_code 19 = .ok (.bipush 90, 2) := by decide +kernel
theorem own_d1_21 : decode prog_81_method_3_code 21 = .ok (.if_icmp .le 9, 3) := by decide +kernel
theorem own_d1_24 : decode prog_81_method_3_code 24 = .ok (.iload_n 0, 1) := by decide +kernel
theorem own_d1_25 : decode prog_81_method_3_code 25 = .ok (.bipush 95, 2) := by decide +kernel
theorem own_d1_27 : decode prog_81_method_3_code 27 = .ok (.if_icmp .ne 7, 3) := by decide +kernel
theorem own_d1_30 : decode prog_81_method_3_code 30 = .ok (.iconst 1, 1) := by decide +kernel
theorem own_d1_31 : decode prog_81_method_3_code 31 = .ok (.goto 4, 3) := by decide +kernel
theorem own_d1_34 : decode prog_81_method_3_code 34 = .ok (.iconst 0, 1) := by decide +kernel
theorem own_d1_35 : decode prog_81_method_3_code 35 = .ok (.ireturn, 1) := by decide +kernel
theorem own_ef1 (m : MethodId) (x0 : Int32) : entryFrame m #[(.int x0)] 1 = mkF m 0 #[.val (.int x0)] [] := by first | (simp [entryFrame, mkF, argsToLocals, Value.category]; done) | rfl
def own_Q1 (Z : State) (ch : Int32) (h0 : Heap) (n0 : Nat) (v : Option Value) (h : Heap) (L : List Loc) : Prop := v = some (.int (own_b (own_isNS ch))) ∧ L = [] ∧ h = h0
theorem own_pn0 : plainName "com/example/quillpack/quillpack/schema/Names" = true := by first | (simp [plainName, overriddenIn]; done) | decide +kernel
set_option maxHeartbeats 40000000 in
theorem own_rm1 (l : Launch) (Z : State) (a0 : Array Value) (hw : ∀ d ∈ tables_1, d.before a0 Z = true) (ws : List Jvm.Cond) (ch : Int32) (h0 : Heap) (n0 : Nat) (Z0 : n0 ≤ h0.size) :
    MetFree l (⟨"com/example/quillpack/quillpack/schema/Names", "isNameStart", "(I)Z"⟩ : MethodName) (head1 (Jvm.Cond.code (⟨"com/example/quillpack/quillpack/schema/Names", "isNameStart", "(I)Z"⟩ : MethodName) prog_81_method_3_code 1 (some .boolean) :: ws) ({ frames := 0, cells := 0, slots := 0, locals := 0 } : Room)) (fun a U => a = #[(.int ch)] ∧ Z.Warmed39 U.vm ∧ U.heap = h0) (fun _ _ _ _ _ => True) (fun _ U o U' => ∃ v L, o = .returned v ∧ own_Q1 Z ch h0 n0 v U'.heap L ∧ FrameEnd U o U' L ({ frames := 0, cells := 0, slots := 0, locals := 0 } : Room).cells ({ frames := 0, cells := 0, slots := 0, locals := 0 } : Room).slots) := by
  refine MetFree.of_bodySF (plainFor_of_name own_pn0) hisR ?_
  intro p e s m args below meth c s₁ Bd hml0 hP hK
  obtain ⟨rfl, hZ, hh⟩ := hP
  have hx := Bd.exec
  have hby := Bd.bytes
  have hml : c.maxLocals = 1 := hml0
  have hown : s.vm.findClass "com/example/quillpack/quillpack/schema/Names" = some m.cls := findClass_of_methodNamed Bd.named
  have hnm := (name_of_methodNamed Bd.named Bd.method).1
  have X0 : Stand p l e ({ frames := 0, cells := 0, slots := 0, locals := 0 } : Room) s m #[(.int ch)] below meth c s₁ [] 0 0 := Stand.of_body Bd
  have e0 : s₁.heap = h0 := by rw [← hh, Bd.state]; rfl
  have N0 := Fr.nil n0
  have pre0 : ∀ t, Steps p.tables e below (s₁.setTop (mkF m 0 #[.val (.int ch)] [])) t → Steps p.tables e below (s₁.setTop (entryFrame m #[(.int ch)] 1)) t := fun t k => castTop (own_ef1 m ch) k
  have S1 : ∀ t, Steps p.tables e below (s₁.setTop (mkF m 3 #[.val (.int ch)] [(.int (97 : Int32)), (.int ch)])) t → Steps p.tables e below (s₁.setTop (entryFrame m #[(.int ch)] 1)) t := fun t kt => by
    refine pre0 t ?_
    show Steps p.tables e below (s₁.setTop (mkF m 0 #[.val (.int ch)] [])) t
    refine XS.iloadN X0.here hx rfl (hb hby own_d1_0) rfl ?_
    show Steps p.tables e below (s₁.setTop (mkF m 1 #[.val (.int ch)] [(.int ch)])) t
    refine XS.bipush X0.here hx rfl (hb hby own_d1_1) ?_
    exact kt
  by_cases hc3 : ch < (97 : Int32)
  · skip
    have S2 : ∀ t, Steps p.tables e below (s₁.setTop (mkF m 15 #[.val (.int ch)] [(.int (65 : Int32)), (.int ch)])) t → Steps p.tables e below (s₁.setTop (entryFrame m #[(.int ch)] 1)) t := fun t kt => by
      refine S1 t ?_
      show Steps p.tables e below (s₁.setTop (mkF m 3 #[.val (.int ch)] [(.int (97 : Int32)), (.int ch)])) t
      refine XS.icmpYes X0.here hx rfl (pc0 := 3) (pc' := 12) rfl (hb hby own_d1_3) rfl (tlt hc3).1 (by decide) (by decide) ?_
      show Steps p.tables e below (s₁.setTop (mkF m 12 #[.val (.int ch)] [])) t
      refine XS.iloadN X0.here hx rfl (hb hby own_d1_12) rfl ?_
      show Steps p.tables e below (s₁.setTop (mkF m 13 #[.val (.int ch)] [(.int ch)])) t
      refine XS.bipush X0.here hx rfl (hb hby own_d1_13) ?_
      exact kt
    by_cases hc15 : ch < (65 : Int32)
    · skip
      have S3 : ∀ t, Steps p.tables e below (s₁.setTop (mkF m 27 #[.val (.int ch)] [(.int (95 : Int32)), (.int ch)])) t → Steps p.tables e below (s₁.setTop (entryFrame m #[(.int ch)] 1)) t := fun t kt => by
        refine S2 t ?_
        show Steps p.tables e below (s₁.setTop (mkF m 15 #[.val (.int ch)] [(.int (65 : Int32)), (.int ch)])) t
        refine XS.icmpYes X0.here hx rfl (pc0 := 15) (pc' := 24) rfl (hb hby own_d1_15) rfl (tlt hc15).1 (by decide) (by decide) ?_
        show Steps p.tables e below (s₁.setTop (mkF m 24 #[.val (.int ch)] [])) t
        refine XS.iloadN X0.here hx rfl (hb hby own_d1_24) rfl ?_
        show Steps p.tables e below (s₁.setTop (mkF m 25 #[.val (.int ch)] [(.int ch)])) t
        refine XS.bipush X0.here hx rfl (hb hby own_d1_25) ?_
        exact kt
      by_cases hc27 : ch = (95 : Int32)
      · skip
        have S4 : ∀ t, Steps p.tables e below (s₁.setTop (mkF m 35 #[.val (.int ch)] [(.int (1 : Int32))])) t → Steps p.tables e below (s₁.setTop (entryFrame m #[(.int ch)] 1)) t := fun t kt => by
          refine S3 t ?_
          show Steps p.tables e below (s₁.setTop (mkF m 27 #[.val (.int ch)] [(.int (95 : Int32)), (.int ch)])) t
          refine XS.icmpNo X0.here hx rfl (hb hby own_d1_27) rfl (teq hc27).2 ?_
          show Steps p.tables e below (s₁.setTop (mkF m 30 #[.val (.int ch)] [])) t
          refine XS.iconst X0.here hx rfl (hb hby own_d1_30) ?_
          show Steps p.tables e below (s₁.setTop (mkF m 31 #[.val (.int ch)] [(.int (1 : Int32))])) t
          refine XS.goto X0.here hx rfl (pc0 := 31) (pc' := 35) rfl (hb hby own_d1_31) (by decide) (by decide) ?_
          exact kt
        obtain ⟨fs, hr, hrun, hended, hW, hsame⟩ := X0.leave (v := some (.int (nar .boolean (1 : Int32)))) (fun h => by rw [Bd.returns] at h; cases h)
        refine ⟨_, _, S4 _ ?_, hrun, hended, _, _, rfl, ?_, ⟨_, rfl⟩, hW, hsame.mono (by decide) (by decide)⟩
        · show Steps p.tables e below (s₁.setTop (mkF m 35 #[.val (.int ch)] [(.int (1 : Int32))])) _
          exact retN X0 hx (t := .boolean) Bd.returns (by simp) (hb hby own_d1_35) hr
        · show own_Q1 Z ch h0 n0 _ s₁.heap _
          rw [e0]
          exact ⟨own_leafT (by simp only [own_isNS, decide_true, decide_false, not_true_eq_false, not_false_eq_true, and_true, true_and, and_false, false_and, and_self, or_true, true_or, or_false, false_or, or_self, if_true, if_false, Bool.not_true, Bool.not_false, Bool.and_true, Bool.true_and, Bool.and_false, Bool.false_and, *]), rfl, rfl⟩
      · skip
        have S5 : ∀ t, Steps p.tables e below (s₁.setTop (mkF m 35 #[.val (.int ch)] [(.int (0 : Int32))])) t → Steps p.tables e below (s₁.setTop (entryFrame m #[(.int ch)] 1)) t := fun t kt => by
          refine S3 t ?_
          show Steps p.tables e below (s₁.setTop (mkF m 27 #[.val (.int ch)] [(.int (95 : Int32)), (.int ch)])) t
          refine XS.icmpYes X0.here hx rfl (pc0 := 27) (pc' := 34) rfl (hb hby own_d1_27) rfl (feq hc27).2 (by decide) (by decide) ?_
          show Steps p.tables e below (s₁.setTop (mkF m 34 #[.val (.int ch)] [])) t
          refine XS.iconst X0.here hx rfl (hb hby own_d1_34) ?_
          exact kt
        obtain ⟨fs, hr, hrun, hended, hW, hsame⟩ := X0.leave (v := some (.int (nar .boolean (0 : Int32)))) (fun h => by rw [Bd.returns] at h; cases h)
        refine ⟨_, _, S5 _ ?_, hrun, hended, _, _, rfl, ?_, ⟨_, rfl⟩, hW, hsame.mono (by decide) (by decide)⟩
        · show Steps p.tables e below (s₁.setTop (mkF m 35 #[.val (.int ch)] [(.int (0 : Int32))])) _
          exact retN X0 hx (t := .boolean) Bd.returns (by simp) (hb hby own_d1_35) hr
        · show own_Q1 Z ch h0 n0 _ s₁.heap _
          rw [e0]
          exact ⟨own_leafF (by simp only [own_isNS, decide_true, decide_false, not_true_eq_false, not_false_eq_true, and_true, true_and, and_false, false_and, and_self, or_true, true_or, or_false, false_or, or_self, if_true, if_false, Bool.not_true, Bool.not_false, Bool.and_true, Bool.true_and, Bool.and_false, Bool.false_and, *]), rfl, rfl⟩
    · skip
      have S6 : ∀ t, Steps p.tables e below (s₁.setTop (mkF m 21 #[.val (.int ch)] [(.int (90 : Int32)), (.int ch)])) t → Steps p.tables e below (s₁.setTop (entryFrame m #[(.int ch)] 1)) t := fun t kt => by
        refine S2 t ?_
        show Steps p.tables e below (s₁.setTop (mkF m 15 #[.val (.int ch)] [(.int (65 : Int32)), (.int ch)])) t
        refine XS.icmpNo X0.here hx rfl (hb hby own_d1_15) rfl (flt hc15).1 ?_
        show Steps p.tables e below (s₁.setTop (mkF m 18 #[.val (.int ch)] [])) t
        refine XS.iloadN X0.here hx rfl (hb hby own_d1_18) rfl ?_
        show Steps p.tables e below (s₁.setTop (mkF m 19 #[.val (.int ch)] [(.int ch)])) t
        refine XS.bipush X0.here hx rfl (hb hby own_d1_19) ?_
        exact kt
      by_cases hc21 : (90 : Int32) < ch
      · skip
        have S7 : ∀ t, Steps p.tables e below (s₁.setTop (mkF m 27 #[.val (.int ch)] [(.int (95 : Int32)), (.int ch)])) t → Steps p.tables e below (s₁.setTop (entryFrame m #[(.int ch)] 1)) t := fun t kt => by
          refine S6 t ?_
          show Steps p.tables e below (s₁.setTop (mkF m 21 #[.val (.int ch)] [(.int (90 : Int32)), (.int ch)])) t
          refine XS.icmpNo X0.here hx rfl (hb hby own_d1_21) rfl (tlt hc21).2.2.2 ?_
          show Steps p.tables e below (s₁.setTop (mkF m 24 #[.val (.int ch)] [])) t
          refine XS.iloadN X0.here hx rfl (hb hby own_d1_24) rfl ?_
          show Steps p.tables e below (s₁.setTop (mkF m 25 #[.val (.int ch)] [(.int ch)])) t
          refine XS.bipush X0.here hx rfl (hb hby own_d1_25) ?_
          exact kt
        by_cases hc27 : ch = (95 : Int32)
        · skip
          have S8 : ∀ t, Steps p.tables e below (s₁.setTop (mkF m 35 #[.val (.int ch)] [(.int (1 : Int32))])) t → Steps p.tables e below (s₁.setTop (entryFrame m #[(.int ch)] 1)) t := fun t kt => by
            refine S7 t ?_
            show Steps p.tables e below (s₁.setTop (mkF m 27 #[.val (.int ch)] [(.int (95 : Int32)), (.int ch)])) t
            refine XS.icmpNo X0.here hx rfl (hb hby own_d1_27) rfl (teq hc27).2 ?_
            show Steps p.tables e below (s₁.setTop (mkF m 30 #[.val (.int ch)] [])) t
            refine XS.iconst X0.here hx rfl (hb hby own_d1_30) ?_
            show Steps p.tables e below (s₁.setTop (mkF m 31 #[.val (.int ch)] [(.int (1 : Int32))])) t
            refine XS.goto X0.here hx rfl (pc0 := 31) (pc' := 35) rfl (hb hby own_d1_31) (by decide) (by decide) ?_
            exact kt
          obtain ⟨fs, hr, hrun, hended, hW, hsame⟩ := X0.leave (v := some (.int (nar .boolean (1 : Int32)))) (fun h => by rw [Bd.returns] at h; cases h)
          refine ⟨_, _, S8 _ ?_, hrun, hended, _, _, rfl, ?_, ⟨_, rfl⟩, hW, hsame.mono (by decide) (by decide)⟩
          · show Steps p.tables e below (s₁.setTop (mkF m 35 #[.val (.int ch)] [(.int (1 : Int32))])) _
            exact retN X0 hx (t := .boolean) Bd.returns (by simp) (hb hby own_d1_35) hr
          · show own_Q1 Z ch h0 n0 _ s₁.heap _
            rw [e0]
            exact ⟨own_leafT (by simp only [own_isNS, decide_true, decide_false, not_true_eq_false, not_false_eq_true, and_true, true_and, and_false, false_and, and_self, or_true, true_or, or_false, false_or, or_self, if_true, if_false, Bool.not_true, Bool.not_false, Bool.and_true, Bool.true_and, Bool.and_false, Bool.false_and, *]), rfl, rfl⟩
        · skip
          have S9 : ∀ t, Steps p.tables e below (s₁.setTop (mkF m 35 #[.val (.int ch)] [(.int (0 : Int32))])) t → Steps p.tables e below (s₁.setTop (entryFrame m #[(.int ch)] 1)) t := fun t kt => by
            refine S7 t ?_
            show Steps p.tables e below (s₁.setTop (mkF m 27 #[.val (.int ch)] [(.int (95 : Int32)), (.int ch)])) t
            refine XS.icmpYes X0.here hx rfl (pc0 := 27) (pc' := 34) rfl (hb hby own_d1_27) rfl (feq hc27).2 (by decide) (by decide) ?_
            show Steps p.tables e below (s₁.setTop (mkF m 34 #[.val (.int ch)] [])) t
            refine XS.iconst X0.here hx rfl (hb hby own_d1_34) ?_
            exact kt
          obtain ⟨fs, hr, hrun, hended, hW, hsame⟩ := X0.leave (v := some (.int (nar .boolean (0 : Int32)))) (fun h => by rw [Bd.returns] at h; cases h)
          refine ⟨_, _, S9 _ ?_, hrun, hended, _, _, rfl, ?_, ⟨_, rfl⟩, hW, hsame.mono (by decide) (by decide)⟩
          · show Steps p.tables e below (s₁.setTop (mkF m 35 #[.val (.int ch)] [(.int (0 : Int32))])) _
            exact retN X0 hx (t := .boolean) Bd.returns (by simp) (hb hby own_d1_35) hr
          · show own_Q1 Z ch h0 n0 _ s₁.heap _
            rw [e0]
            exact ⟨own_leafF (by simp only [own_isNS, decide_true, decide_false, not_true_eq_false, not_false_eq_true, and_true, true_and, and_false, false_and, and_self, or_true, true_or, or_false, false_or, or_self, if_true, if_false, Bool.not_true, Bool.not_false, Bool.and_true, Bool.true_and, Bool.and_false, Bool.false_and, *]), rfl, rfl⟩
      · skip
        have S10 : ∀ t, Steps p.tables e below (s₁.setTop (mkF m 35 #[.val (.int ch)] [(.int (1 : Int32))])) t → Steps p.tables e below (s₁.setTop (entryFrame m #[(.int ch)] 1)) t := fun t kt => by
          refine S6 t ?_
          show Steps p.tables e below (s₁.setTop (mkF m 21 #[.val (.int ch)] [(.int (90 : Int32)), (.int ch)])) t
          refine XS.icmpYes X0.here hx rfl (pc0 := 21) (pc' := 30) rfl (hb hby own_d1_21) rfl (flt hc21).2.2.2 (by decide) (by decide) ?_
          show Steps p.tables e below (s₁.setTop (mkF m 30 #[.val (.int ch)] [])) t
          refine XS.iconst X0.here hx rfl (hb hby own_d1_30) ?_
          show Steps p.tables e below (s₁.setTop (mkF m 31 #[.val (.int ch)] [(.int (1 : Int32))])) t
          refine XS.goto X0.here hx rfl (pc0 := 31) (pc' := 35) rfl (hb hby own_d1_31) (by decide) (by decide) ?_
          exact kt
        obtain ⟨fs, hr, hrun, hended, hW, hsame⟩ := X0.leave (v := some (.int (nar .boolean (1 : Int32)))) (fun h => by rw [Bd.returns] at h; cases h)
        refine ⟨_, _, S10 _ ?_, hrun, hended, _, _, rfl, ?_, ⟨_, rfl⟩, hW, hsame.mono (by decide) (by decide)⟩
        · show Steps p.tables e below (s₁.setTop (mkF m 35 #[.val (.int ch)] [(.int (1 : Int32))])) _
          exact retN X0 hx (t := .boolean) Bd.returns (by simp) (hb hby own_d1_35) hr
        · show own_Q1 Z ch h0 n0 _ s₁.heap _
          rw [e0]
          exact ⟨own_leafT (by simp only [own_isNS, decide_true, decide_false, not_true_eq_false, not_false_eq_true, and_true, true_and, and_false, false_and, and_self, or_true, true_or, or_false, false_or, or_self, if_true, if_false, Bool.not_true, Bool.not_false, Bool.and_true, Bool.true_and, Bool.and_false, Bool.false_and, *]), rfl, rfl⟩
  · skip
    have S11 : ∀ t, Steps p.tables e below (s₁.setTop (mkF m 9 #[.val (.int ch)] [(.int (122 : Int32)), (.int ch)])) t → Steps p.tables e below (s₁.setTop (entryFrame m #[(.int ch)] 1)) t := fun t kt => by
      refine S1 t ?_
      show Steps p.tables e below (s₁.setTop (mkF m 3 #[.val (.int ch)] [(.int (97 : Int32)), (.int ch)])) t
      refine XS.icmpNo X0.here hx rfl (hb hby own_d1_3) rfl (flt hc3).1 ?_
      show Steps p.tables e below (s₁.setTop (mkF m 6 #[.val (.int ch)] [])) t
      refine XS.iloadN X0.here hx rfl (hb hby own_d1_6) rfl ?_
      show Steps p.tables e below (s₁.setTop (mkF m 7 #[.val (.int ch)] [(.int ch)])) t
      refine XS.bipush X0.here hx rfl (hb hby own_d1_7) ?_
      exact kt
    by_cases hc9 : (122 : Int32) < ch
    · skip
      have S12 : ∀ t, Steps p.tables e below (s₁.setTop (mkF m 15 #[.val (.int ch)] [(.int (65 : Int32)), (.int ch)])) t → Steps p.tables e below (s₁.setTop (entryFrame m #[(.int ch)] 1)) t := fun t kt => by
        refine S11 t ?_
        show Steps p.tables e below (s₁.setTop (mkF m 9 #[.val (.int ch)] [(.int (122 : Int32)), (.int ch)])) t
        refine XS.icmpNo X0.here hx rfl (hb hby own_d1_9) rfl (tlt hc9).2.2.2 ?_
        show Steps p.tables e below (s₁.setTop (mkF m 12 #[.val (.int ch)] [])) t
        refine XS.iloadN X0.here hx rfl (hb hby own_d1_12) rfl ?_
        show Steps p.tables e below (s₁.setTop (mkF m 13 #[.val (.int ch)] [(.int ch)])) t
        refine XS.bipush X0.here hx rfl (hb hby own_d1_13) ?_
        exact kt
      by_cases hc15 : ch < (65 : Int32)
      · skip
        have S13 : ∀ t, Steps p.tables e below (s₁.setTop (mkF m 27 #[.val (.int ch)] [(.int (95 : Int32)), (.int ch)])) t → Steps p.tables e below (s₁.setTop (entryFrame m #[(.int ch)] 1)) t := fun t kt => by
          refine S12 t ?_
          show Steps p.tables e below (s₁.setTop (mkF m 15 #[.val (.int ch)] [(.int (65 : Int32)), (.int ch)])) t
          refine XS.icmpYes X0.here hx rfl (pc0 := 15) (pc' := 24) rfl (hb hby own_d1_15) rfl (tlt hc15).1 (by decide) (by decide) ?_
          show Steps p.tables e below (s₁.setTop (mkF m 24 #[.val (.int ch)] [])) t
          refine XS.iloadN X0.here hx rfl (hb hby own_d1_24) rfl ?_
          show Steps p.tables e below (s₁.setTop (mkF m 25 #[.val (.int ch)] [(.int ch)])) t
          refine XS.bipush X0.here hx rfl (hb hby own_d1_25) ?_
          exact kt
        by_cases hc27 : ch = (95 : Int32)
        · skip
          have S14 : ∀ t, Steps p.tables e below (s₁.setTop (mkF m 35 #[.val (.int ch)] [(.int (1 : Int32))])) t → Steps p.tables e below (s₁.setTop (entryFrame m #[(.int ch)] 1)) t := fun t kt => by
            refine S13 t ?_
            show Steps p.tables e below (s₁.setTop (mkF m 27 #[.val (.int ch)] [(.int (95 : Int32)), (.int ch)])) t
            refine XS.icmpNo X0.here hx rfl (hb hby own_d1_27) rfl (teq hc27).2 ?_
            show Steps p.tables e below (s₁.setTop (mkF m 30 #[.val (.int ch)] [])) t
            refine XS.iconst X0.here hx rfl (hb hby own_d1_30) ?_
            show Steps p.tables e below (s₁.setTop (mkF m 31 #[.val (.int ch)] [(.int (1 : Int32))])) t
            refine XS.goto X0.here hx rfl (pc0 := 31) (pc' := 35) rfl (hb hby own_d1_31) (by decide) (by decide) ?_
            exact kt
          obtain ⟨fs, hr, hrun, hended, hW, hsame⟩ := X0.leave (v := some (.int (nar .boolean (1 : Int32)))) (fun h => by rw [Bd.returns] at h; cases h)
          refine ⟨_, _, S14 _ ?_, hrun, hended, _, _, rfl, ?_, ⟨_, rfl⟩, hW, hsame.mono (by decide) (by decide)⟩
          · show Steps p.tables e below (s₁.setTop (mkF m 35 #[.val (.int ch)] [(.int (1 : Int32))])) _
            exact retN X0 hx (t := .boolean) Bd.returns (by simp) (hb hby own_d1_35) hr
          · show own_Q1 Z ch h0 n0 _ s₁.heap _
            rw [e0]
            exact ⟨own_leafT (by simp only [own_isNS, decide_true, decide_false, not_true_eq_false, not_false_eq_true, and_true, true_and, and_false, false_and, and_self, or_true, true_or, or_false, false_or, or_self, if_true, if_false, Bool.not_true, Bool.not_false, Bool.and_true, Bool.true_and, Bool.and_false, Bool.false_and, *]), rfl, rfl⟩
        · skip
          have S15 : ∀ t, Steps p.tables e below (s₁.setTop (mkF m 35 #[.val (.int ch)] [(.int (0 : Int32))])) t → Steps p.tables e below (s₁.setTop (entryFrame m #[(.int ch)] 1)) t := fun t kt => by
            refine S13 t ?_
            show Steps p.tables e below (s₁.setTop (mkF m 27 #[.val (.int ch)] [(.int (95 : Int32)), (.int ch)])) t
            refine XS.icmpYes X0.here hx rfl (pc0 := 27) (pc' := 34) rfl (hb hby own_d1_27) rfl (feq hc27).2 (by decide) (by decide) ?_
            show Steps p.tables e below (s₁.setTop (mkF m 34 #[.val (.int ch)] [])) t
            refine XS.iconst X0.here hx rfl (hb hby own_d1_34) ?_
            exact kt
          obtain ⟨fs, hr, hrun, hended, hW, hsame⟩ := X0.leave (v := some (.int (nar .boolean (0 : Int32)))) (fun h => by rw [Bd.returns] at h; cases h)
          refine ⟨_, _, S15 _ ?_, hrun, hended, _, _, rfl, ?_, ⟨_, rfl⟩, hW, hsame.mono (by decide) (by decide)⟩
          · show Steps p.tables e below (s₁.setTop (mkF m 35 #[.val (.int ch)] [(.int (0 : Int32))])) _
            exact retN X0 hx (t := .boolean) Bd.returns (by simp) (hb hby own_d1_35) hr
          · show own_Q1 Z ch h0 n0 _ s₁.heap _
            rw [e0]
            exact ⟨own_leafF (by simp only [own_isNS, decide_true, decide_false, not_true_eq_false, not_false_eq_true, and_true, true_and, and_false, false_and, and_self, or_true, true_or, or_false, false_or, or_self, if_true, if_false, Bool.not_true, Bool.not_false, Bool.and_true, Bool.true_and, Bool.and_false, Bool.false_and, *]), rfl, rfl⟩
      · skip
        have S16 : ∀ t, Steps p.tables e below (s₁.setTop (mkF m 21 #[.val (.int ch)] [(.int (90 : Int32)), (.int ch)])) t → Steps p.tables e below (s₁.setTop (entryFrame m #[(.int ch)] 1)) t := fun t kt => by
          refine S12 t ?_
          show Steps p.tables e below (s₁.setTop (mkF m 15 #[.val (.int ch)] [(.int (65 : Int32)), (.int ch)])) t
          refine XS.icmpNo X0.here hx rfl (hb hby own_d1_15) rfl (flt hc15).1 ?_
          show Steps p.tables e below (s₁.setTop (mkF m 18 #[.val (.int ch)] [])) t
          refine XS.iloadN X0.here hx rfl (hb hby own_d1_18) rfl ?_
          show Steps p.tables e below (s₁.setTop (mkF m 19 #[.val (.int ch)] [(.int ch)])) t
          refine XS.bipush X0.here hx rfl (hb hby own_d1_19) ?_
          exact kt
        by_cases hc21 : (90 : Int32) < ch
        · skip
          have S17 : ∀ t, Steps p.tables e below (s₁.setTop (mkF m 27 #[.val (.int ch)] [(.int (95 : Int32)), (.int ch)])) t → Steps p.tables e below (s₁.setTop (entryFrame m #[(.int ch)] 1)) t := fun t kt => by
            refine S16 t ?_
            show Steps p.tables e below (s₁.setTop (mkF m 21 #[.val (.int ch)] [(.int (90 : Int32)), (.int ch)])) t
            refine XS.icmpNo X0.here hx rfl (hb hby own_d1_21) rfl (tlt hc21).2.2.2 ?_
            show Steps p.tables e below (s₁.setTop (mkF m 24 #[.val (.int ch)] [])) t
            refine XS.iloadN X0.here hx rfl (hb hby own_d1_24) rfl ?_
            show Steps p.tables e below (s₁.setTop (mkF m 25 #[.val (.int ch)] [(.int ch)])) t
            refine XS.bipush X0.here hx rfl (hb hby own_d1_25) ?_
            exact kt
          by_cases hc27 : ch = (95 : Int32)
          · skip
            have S18 : ∀ t, Steps p.tables e below (s₁.setTop (mkF m 35 #[.val (.int ch)] [(.int (1 : Int32))])) t → Steps p.tables e below (s₁.setTop (entryFrame m #[(.int ch)] 1)) t := fun t kt => by
              refine S17 t ?_
              show Steps p.tables e below (s₁.setTop (mkF m 27 #[.val (.int ch)] [(.int (95 : Int32)), (.int ch)])) t
              refine XS.icmpNo X0.here hx rfl (hb hby own_d1_27) rfl (teq hc27).2 ?_
              show Steps p.tables e below (s₁.setTop (mkF m 30 #[.val (.int ch)] [])) t
              refine XS.iconst X0.here hx rfl (hb hby own_d1_30) ?_
              show Steps p.tables e below (s₁.setTop (mkF m 31 #[.val (.int ch)] [(.int (1 : Int32))])) t
              refine XS.goto X0.here hx rfl (pc0 := 31) (pc' := 35) rfl (hb hby own_d1_31) (by decide) (by decide) ?_
              exact kt
            obtain ⟨fs, hr, hrun, hended, hW, hsame⟩ := X0.leave (v := some (.int (nar .boolean (1 : Int32)))) (fun h => by rw [Bd.returns] at h; cases h)
            refine ⟨_, _, S18 _ ?_, hrun, hended, _, _, rfl, ?_, ⟨_, rfl⟩, hW, hsame.mono (by decide) (by decide)⟩
            · show Steps p.tables e below (s₁.setTop (mkF m 35 #[.val (.int ch)] [(.int (1 : Int32))])) _
              exact retN X0 hx (t := .boolean) Bd.returns (by simp) (hb hby own_d1_35) hr
            · show own_Q1 Z ch h0 n0 _ s₁.heap _
              rw [e0]
              exact ⟨own_leafT (by simp only [own_isNS, decide_true, decide_false, not_true_eq_false, not_false_eq_true, and_true, true_and, and_false, false_and, and_self, or_true, true_or, or_false, false_or, or_self, if_true, if_false, Bool.not_true, Bool.not_false, Bool.and_true, Bool.true_and, Bool.and_false, Bool.false_and, *]), rfl, rfl⟩
          · skip
            have S19 : ∀ t, Steps p.tables e below (s₁.setTop (mkF m 35 #[.val (.int ch)] [(.int (0 : Int32))])) t → Steps p.tables e below (s₁.setTop (entryFrame m #[(.int ch)] 1)) t := fun t kt => by
              refine S17 t ?_
              show Steps p.tables e below (s₁.setTop (mkF m 27 #[.val (.int ch)] [(.int (95 : Int32)), (.int ch)])) t
              refine XS.icmpYes X0.here hx rfl (pc0 := 27) (pc' := 34) rfl (hb hby own_d1_27) rfl (feq hc27).2 (by decide) (by decide) ?_
              show Steps p.tables e below (s₁.setTop (mkF m 34 #[.val (.int ch)] [])) t
              refine XS.iconst X0.here hx rfl (hb hby own_d1_34) ?_
              exact kt
            obtain ⟨fs, hr, hrun, hended, hW, hsame⟩ := X0.leave (v := some (.int (nar .boolean (0 : Int32)))) (fun h => by rw [Bd.returns] at h; cases h)
            refine ⟨_, _, S19 _ ?_, hrun, hended, _, _, rfl, ?_, ⟨_, rfl⟩, hW, hsame.mono (by decide) (by decide)⟩
            · show Steps p.tables e below (s₁.setTop (mkF m 35 #[.val (.int ch)] [(.int (0 : Int32))])) _
              exact retN X0 hx (t := .boolean) Bd.returns (by simp) (hb hby own_d1_35) hr
            · show own_Q1 Z ch h0 n0 _ s₁.heap _
              rw [e0]
              exact ⟨own_leafF (by simp only [own_isNS, decide_true, decide_false, not_true_eq_false, not_false_eq_true, and_true, true_and, and_false, false_and, and_self, or_true, true_or, or_false, false_or, or_self, if_true, if_false, Bool.not_true, Bool.not_false, Bool.and_true, Bool.true_and, Bool.and_false, Bool.false_and, *]), rfl, rfl⟩
        · skip
          have S20 : ∀ t, Steps p.tables e below (s₁.setTop (mkF m 35 #[.val (.int ch)] [(.int (1 : Int32))])) t → Steps p.tables e below (s₁.setTop (entryFrame m #[(.int ch)] 1)) t := fun t kt => by
            refine S16 t ?_
            show Steps p.tables e below (s₁.setTop (mkF m 21 #[.val (.int ch)] [(.int (90 : Int32)), (.int ch)])) t
            refine XS.icmpYes X0.here hx rfl (pc0 := 21) (pc' := 30) rfl (hb hby own_d1_21) rfl (flt hc21).2.2.2 (by decide) (by decide) ?_
            show Steps p.tables e below (s₁.setTop (mkF m 30 #[.val (.int ch)] [])) t
            refine XS.iconst X0.here hx rfl (hb hby own_d1_30) ?_
            show Steps p.tables e below (s₁.setTop (mkF m 31 #[.val (.int ch)] [(.int (1 : Int32))])) t
            refine XS.goto X0.here hx rfl (pc0 := 31) (pc' := 35) rfl (hb hby own_d1_31) (by decide) (by decide) ?_
            exact kt
          obtain ⟨fs, hr, hrun, hended, hW, hsame⟩ := X0.leave (v := some (.int (nar .boolean (1 : Int32)))) (fun h => by rw [Bd.returns] at h; cases h)
          refine ⟨_, _, S20 _ ?_, hrun, hended, _, _, rfl, ?_, ⟨_, rfl⟩, hW, hsame.mono (by decide) (by decide)⟩
          · show Steps p.tables e below (s₁.setTop (mkF m 35 #[.val (.int ch)] [(.int (1 : Int32))])) _
            exact retN X0 hx (t := .boolean) Bd.returns (by simp) (hb hby own_d1_35) hr
          · show own_Q1 Z ch h0 n0 _ s₁.heap _
            rw [e0]
            exact ⟨own_leafT (by simp only [own_isNS, decide_true, decide_false, not_true_eq_false, not_false_eq_true, and_true, true_and, and_false, false_and, and_self, or_true, true_or, or_false, false_or, or_self, if_true, if_false, Bool.not_true, Bool.not_false, Bool.and_true, Bool.true_and, Bool.and_false, Bool.false_and, *]), rfl, rfl⟩
    · skip
      have S21 : ∀ t, Steps p.tables e below (s₁.setTop (mkF m 35 #[.val (.int ch)] [(.int (1 : Int32))])) t → Steps p.tables e below (s₁.setTop (entryFrame m #[(.int ch)] 1)) t := fun t kt => by
        refine S11 t ?_
        show Steps p.tables e below (s₁.setTop (mkF m 9 #[.val (.int ch)] [(.int (122 : Int32)), (.int ch)])) t
        refine XS.icmpYes X0.here hx rfl (pc0 := 9) (pc' := 30) rfl (hb hby own_d1_9) rfl (flt hc9).2.2.2 (by decide) (by decide) ?_
        show Steps p.tables e below (s₁.setTop (mkF m 30 #[.val (.int ch)] [])) t
        refine XS.iconst X0.here hx rfl (hb hby own_d1_30) ?_
        show Steps p.tables e below (s₁.setTop (mkF m 31 #[.val (.int ch)] [(.int (1 : Int32))])) t
        refine XS.goto X0.here hx rfl (pc0 := 31) (pc' := 35) rfl (hb hby own_d1_31) (by decide) (by decide) ?_
        exact kt
      obtain ⟨fs, hr, hrun, hended, hW, hsame⟩ := X0.leave (v := some (.int (nar .boolean (1 : Int32)))) (fun h => by rw [Bd.returns] at h; cases h)
      refine ⟨_, _, S21 _ ?_, hrun, hended, _, _, rfl, ?_, ⟨_, rfl⟩, hW, hsame.mono (by decide) (by decide)⟩
      · show Steps p.tables e below (s₁.setTop (mkF m 35 #[.val (.int ch)] [(.int (1 : Int32))])) _
        exact retN X0 hx (t := .boolean) Bd.returns (by simp) (hb hby own_d1_35) hr
      · show own_Q1 Z ch h0 n0 _ s₁.heap _
        rw [e0]
        exact ⟨own_leafT (by simp only [own_isNS, decide_true, decide_false, not_true_eq_false, not_false_eq_true, and_true, true_and, and_false, false_and, and_self, or_true, true_or, or_false, false_or, or_self, if_true, if_false, Bool.not_true, Bool.not_false, Bool.and_true, Bool.true_and, Bool.and_false, Bool.false_and, *]), rfl, rfl⟩
theorem own_pd0 : parseMethodDescriptor "(I)Z" = some ⟨[.int], some .boolean⟩ := by decide +kernel
theorem own_ef0 (m : MethodId) (x0 : Int32) (x1 : Int32) : entryFrame m #[(.int x0), (.int x1)] maxLocals = mkF m 0 #[.val (.int x0), .val (.int x1), .unset, .unset, .unset, .unset, .unset] [] := by first | (simp [entryFrame, mkF, argsToLocals, Value.category, maxLocals]; done) | rfl
def own_Q0 (Z : State) (xx : Int32) (mode : Int32) (h0 : Heap) (n0 : Nat) (v : Option Value) (h : Heap) (L : List Loc) : Prop := v = some (.int (1 : Int32)) ∧ Fr n0 L
theorem own_pn1 : plainName "com/example/quillpack/quillpack/schema/NamesIsNameStartPinLaw" = true := by first | (simp [plainName, overriddenIn]; done) | decide +kernel
set_option maxHeartbeats 40000000 in
theorem own_rm0 (l : Launch) (Z : State) (a0 : Array Value) (hw : ∀ d ∈ tables_1, d.before a0 Z = true) (ws : List Jvm.Cond) (xx : Int32) (mode : Int32) (h0 : Heap) (n0 : Nat) (Z0 : n0 ≤ h0.size) :
    MetFree l x (head1 (Jvm.Cond.code x code maxLocals ret :: ws) room_1) (fun a U => a = #[(.int xx), (.int mode)] ∧ Z.Warmed39 U.vm ∧ U.heap = h0) (fun _ _ _ _ _ => True) (fun _ U o U' => ∃ v L, o = .returned v ∧ own_Q0 Z xx mode h0 n0 v U'.heap L ∧ FrameEnd U o U' L room_1.cells room_1.slots) := by
  refine MetFree.of_bodySF (plainFor_of_name own_pn1) hisR ?_
  intro p e s m args below meth c s₁ Bd hml0 hP hK
  obtain ⟨rfl, hZ, hh⟩ := hP
  have hx := Bd.exec
  have hby := Bd.bytes
  have hml : c.maxLocals = 7 := hml0
  have hown : s.vm.findClass "com/example/quillpack/quillpack/schema/NamesIsNameStartPinLaw" = some m.cls := findClass_of_methodNamed Bd.named
  have hnm := (name_of_methodNamed Bd.named Bd.method).1
  have X0 : Stand p l e room_1 s m #[(.int xx), (.int mode)] below meth c s₁ [] 0 0 := Stand.of_body Bd
  have e0 : s₁.heap = h0 := by rw [← hh, Bd.state]; rfl
  have N0 := Fr.nil n0
  have pre0 : ∀ t, Steps p.tables e below (s₁.setTop (mkF m 0 #[.val (.int xx), .val (.int mode), .unset, .unset, .unset, .unset, .unset] [])) t → Steps p.tables e below (s₁.setTop (entryFrame m #[(.int xx), (.int mode)] maxLocals)) t := fun t k => castTop (own_ef0 m xx mode) k
  have S1 : ∀ t, Steps p.tables e below (s₁.setTop (mkF m 4 #[.val (.int xx), .val (.int mode), .val (.int (mode &&& (3 : Int32))), .unset, .unset, .unset, .unset] [])) t → Steps p.tables e below (s₁.setTop (entryFrame m #[(.int xx), (.int mode)] maxLocals)) t := fun t kt => by
    refine pre0 t ?_
    show Steps p.tables e below (s₁.setTop (mkF m 0 #[.val (.int xx), .val (.int mode), .unset, .unset, .unset, .unset, .unset] [])) t
    refine XS.iloadN X0.here hx rfl (hb hby at_0) rfl ?_
    show Steps p.tables e below (s₁.setTop (mkF m 1 #[.val (.int xx), .val (.int mode), .unset, .unset, .unset, .unset, .unset] [(.int mode)])) t
    refine XS.iconst X0.here hx rfl (hb hby at_1) ?_
    show Steps p.tables e below (s₁.setTop (mkF m 2 #[.val (.int xx), .val (.int mode), .unset, .unset, .unset, .unset, .unset] [(.int (3 : Int32)), (.int mode)])) t
    refine XS.iand X0.here hx rfl (hb hby at_2) rfl ?_
    show Steps p.tables e below (s₁.setTop (mkF m 3 #[.val (.int xx), .val (.int mode), .unset, .unset, .unset, .unset, .unset] [(.int (mode &&& (3 : Int32)))])) t
    refine XS.istoreN X0.here hx rfl (hb hby at_3) rfl (l' := #[.val (.int xx), .val (.int mode), .val (.int (mode &&& (3 : Int32))), .unset, .unset, .unset, .unset]) rfl ?_
    exact kt
  obtain ⟨T2, ch, X2, e2, S2⟩ : ∃ (T' : State) (ch : Int32), own_like X0 T' ∧ T'.heap = h0 ∧ (∀ t, Steps p.tables e below (T'.setTop (mkF m 47 #[.val (.int xx), .val (.int mode), .val (.int (mode &&& (3 : Int32))), .val (.int ch), .unset, .unset, .unset] [])) t → Steps p.tables e below (s₁.setTop (entryFrame m #[(.int xx), (.int mode)] maxLocals)) t) := by
    have S3 : ∀ t, Steps p.tables e below (s₁.setTop (mkF m 5 #[.val (.int xx), .val (.int mode), .val (.int (mode &&& (3 : Int32))), .unset, .unset, .unset, .unset] [(.int (mode &&& (3 : Int32)))])) t → Steps p.tables e below (s₁.setTop (entryFrame m #[(.int xx), (.int mode)] maxLocals)) t := fun t kt => by
      refine S1 t ?_
      show Steps p.tables e below (s₁.setTop (mkF m 4 #[.val (.int xx), .val (.int mode), .val (.int (mode &&& (3 : Int32))), .unset, .unset, .unset, .unset] [])) t
      refine XS.iloadN X0.here hx rfl (hb hby at_4) rfl ?_
      exact kt
    by_cases hc5 : (mode &&& (3 : Int32)) = (0 : Int32)
    · skip
      have S4 : ∀ t, Steps p.tables e below (s₁.setTop (mkF m 47 #[.val (.int xx), .val (.int mode), .val (.int (mode &&& (3 : Int32))), .val (.int xx), .unset, .unset, .unset] [])) t → Steps p.tables e below (s₁.setTop (entryFrame m #[(.int xx), (.int mode)] maxLocals)) t := fun t kt => by
        refine S3 t ?_
        show Steps p.tables e below (s₁.setTop (mkF m 5 #[.val (.int xx), .val (.int mode), .val (.int (mode &&& (3 : Int32))), .unset, .unset, .unset, .unset] [(.int (mode &&& (3 : Int32)))])) t
        refine XS.ifNo X0.here hx rfl (hb hby at_5) rfl ((if0 _ _).trans (teq hc5).2) ?_
        show Steps p.tables e below (s₁.setTop (mkF m 8 #[.val (.int xx), .val (.int mode), .val (.int (mode &&& (3 : Int32))), .unset, .unset, .unset, .unset] [])) t
        refine XS.iloadN X0.here hx rfl (hb hby at_8) rfl ?_
        show Steps p.tables e below (s₁.setTop (mkF m 9 #[.val (.int xx), .val (.int mode), .val (.int (mode &&& (3 : Int32))), .unset, .unset, .unset, .unset] [(.int xx)])) t
        refine XS.istoreN X0.here hx rfl (hb hby at_9) rfl (l' := #[.val (.int xx), .val (.int mode), .val (.int (mode &&& (3 : Int32))), .val (.int xx), .unset, .unset, .unset]) rfl ?_
        show Steps p.tables e below (s₁.setTop (mkF m 10 #[.val (.int xx), .val (.int mode), .val (.int (mode &&& (3 : Int32))), .val (.int xx), .unset, .unset, .unset] [])) t
        refine XS.goto X0.here hx rfl (pc0 := 10) (pc' := 47) rfl (hb hby at_10) (by decide) (by decide) ?_
        exact kt
      exact ⟨s₁, (xx), X0, e0, S4⟩
    · skip
      have S5 : ∀ t, Steps p.tables e below (s₁.setTop (mkF m 15 #[.val (.int xx), .val (.int mode), .val (.int (mode &&& (3 : Int32))), .unset, .unset, .unset, .unset] [(.int (1 : Int32)), (.int (mode &&& (3 : Int32)))])) t → Steps p.tables e below (s₁.setTop (entryFrame m #[(.int xx), (.int mode)] maxLocals)) t := fun t kt => by
        refine S3 t ?_
        show Steps p.tables e below (s₁.setTop (mkF m 5 #[.val (.int xx), .val (.int mode), .val (.int (mode &&& (3 : Int32))), .unset, .unset, .unset, .unset] [(.int (mode &&& (3 : Int32)))])) t
        refine XS.ifYes X0.here hx rfl (pc0 := 5) (pc' := 13) rfl (hb hby at_5) rfl ((if0 _ _).trans (feq hc5).2) (by decide) (by decide) ?_
        show Steps p.tables e below (s₁.setTop (mkF m 13 #[.val (.int xx), .val (.int mode), .val (.int (mode &&& (3 : Int32))), .unset, .unset, .unset, .unset] [])) t
        refine XS.iloadN X0.here hx rfl (hb hby at_13) rfl ?_
        show Steps p.tables e below (s₁.setTop (mkF m 14 #[.val (.int xx), .val (.int mode), .val (.int (mode &&& (3 : Int32))), .unset, .unset, .unset, .unset] [(.int (mode &&& (3 : Int32)))])) t
        refine XS.iconst X0.here hx rfl (hb hby at_14) ?_
        exact kt
      by_cases hc15 : (mode &&& (3 : Int32)) = (1 : Int32)
      · skip
        have S6 : ∀ t, Steps p.tables e below (s₁.setTop (mkF m 47 #[.val (.int xx), .val (.int mode), .val (.int (mode &&& (3 : Int32))), .val (.int (xx &&& (127 : Int32))), .unset, .unset, .unset] [])) t → Steps p.tables e below (s₁.setTop (entryFrame m #[(.int xx), (.int mode)] maxLocals)) t := fun t kt => by
          refine S5 t ?_
          show Steps p.tables e below (s₁.setTop (mkF m 15 #[.val (.int xx), .val (.int mode), .val (.int (mode &&& (3 : Int32))), .unset, .unset, .unset, .unset] [(.int (1 : Int32)), (.int (mode &&& (3 : Int32)))])) t
          refine XS.icmpNo X0.here hx rfl (hb hby at_15) rfl (teq hc15).2 ?_
          show Steps p.tables e below (s₁.setTop (mkF m 18 #[.val (.int xx), .val (.int mode), .val (.int (mode &&& (3 : Int32))), .unset, .unset, .unset, .unset] [])) t
          refine XS.iloadN X0.here hx rfl (hb hby at_18) rfl ?_
          show Steps p.tables e below (s₁.setTop (mkF m 19 #[.val (.int xx), .val (.int mode), .val (.int (mode &&& (3 : Int32))), .unset, .unset, .unset, .unset] [(.int xx)])) t
          refine XS.bipush X0.here hx rfl (hb hby at_19) ?_
          show Steps p.tables e below (s₁.setTop (mkF m 21 #[.val (.int xx), .val (.int mode), .val (.int (mode &&& (3 : Int32))), .unset, .unset, .unset, .unset] [(.int (127 : Int32)), (.int xx)])) t
          refine XS.iand X0.here hx rfl (hb hby at_21) rfl ?_
          show Steps p.tables e below (s₁.setTop (mkF m 22 #[.val (.int xx), .val (.int mode), .val (.int (mode &&& (3 : Int32))), .unset, .unset, .unset, .unset] [(.int (xx &&& (127 : Int32)))])) t
          refine XS.istoreN X0.here hx rfl (hb hby at_22) rfl (l' := #[.val (.int xx), .val (.int mode), .val (.int (mode &&& (3 : Int32))), .val (.int (xx &&& (127 : Int32))), .unset, .unset, .unset]) rfl ?_
          show Steps p.tables e below (s₁.setTop (mkF m 23 #[.val (.int xx), .val (.int mode), .val (.int (mode &&& (3 : Int32))), .val (.int (xx &&& (127 : Int32))), .unset, .unset, .unset] [])) t
          refine XS.goto X0.here hx rfl (pc0 := 23) (pc' := 47) rfl (hb hby at_23) (by decide) (by decide) ?_
          exact kt
        exact ⟨s₁, ((xx &&& (127 : Int32))), X0, e0, S6⟩
      · skip
        have S7 : ∀ t, Steps p.tables e below (s₁.setTop (mkF m 28 #[.val (.int xx), .val (.int mode), .val (.int (mode &&& (3 : Int32))), .unset, .unset, .unset, .unset] [(.int (2 : Int32)), (.int (mode &&& (3 : Int32)))])) t → Steps p.tables e below (s₁.setTop (entryFrame m #[(.int xx), (.int mode)] maxLocals)) t := fun t kt => by
          refine S5 t ?_
          show Steps p.tables e below (s₁.setTop (mkF m 15 #[.val (.int xx), .val (.int mode), .val (.int (mode &&& (3 : Int32))), .unset, .unset, .unset, .unset] [(.int (1 : Int32)), (.int (mode &&& (3 : Int32)))])) t
          refine XS.icmpYes X0.here hx rfl (pc0 := 15) (pc' := 26) rfl (hb hby at_15) rfl (feq hc15).2 (by decide) (by decide) ?_
          show Steps p.tables e below (s₁.setTop (mkF m 26 #[.val (.int xx), .val (.int mode), .val (.int (mode &&& (3 : Int32))), .unset, .unset, .unset, .unset] [])) t
          refine XS.iloadN X0.here hx rfl (hb hby at_26) rfl ?_
          show Steps p.tables e below (s₁.setTop (mkF m 27 #[.val (.int xx), .val (.int mode), .val (.int (mode &&& (3 : Int32))), .unset, .unset, .unset, .unset] [(.int (mode &&& (3 : Int32)))])) t
          refine XS.iconst X0.here hx rfl (hb hby at_27) ?_
          exact kt
        by_cases hc28 : (mode &&& (3 : Int32)) = (2 : Int32)
        · skip
          have S8 : ∀ t, Steps p.tables e below (s₁.setTop (mkF m 47 #[.val (.int xx), .val (.int mode), .val (.int (mode &&& (3 : Int32))), .val (.int (xx &&& (65535 : Int32))), .unset, .unset, .unset] [])) t → Steps p.tables e below (s₁.setTop (entryFrame m #[(.int xx), (.int mode)] maxLocals)) t := fun t kt => by
            refine S7 t ?_
            show Steps p.tables e below (s₁.setTop (mkF m 28 #[.val (.int xx), .val (.int mode), .val (.int (mode &&& (3 : Int32))), .unset, .unset, .unset, .unset] [(.int (2 : Int32)), (.int (mode &&& (3 : Int32)))])) t
            refine XS.icmpNo X0.here hx rfl (hb hby at_28) rfl (teq hc28).2 ?_
            show Steps p.tables e below (s₁.setTop (mkF m 31 #[.val (.int xx), .val (.int mode), .val (.int (mode &&& (3 : Int32))), .unset, .unset, .unset, .unset] [])) t
            refine XS.iloadN X0.here hx rfl (hb hby at_31) rfl ?_
            show Steps p.tables e below (s₁.setTop (mkF m 32 #[.val (.int xx), .val (.int mode), .val (.int (mode &&& (3 : Int32))), .unset, .unset, .unset, .unset] [(.int xx)])) t
            refine X0.ldcInt hx hown (mvT hZ (hw _ (List.mem_of_getElem? (i := 5) rfl))) (g := (mkF m 32 #[.val (.int xx), .val (.int mode), .val (.int (mode &&& (3 : Int32))), .unset, .unset, .unset, .unset] [(.int xx)])) rfl (hb hby at_32) _ ?_
            show Steps p.tables e below (s₁.setTop (mkF m 34 #[.val (.int xx), .val (.int mode), .val (.int (mode &&& (3 : Int32))), .unset, .unset, .unset, .unset] [(.int (65535 : Int32)), (.int xx)])) t
            refine XS.iand X0.here hx rfl (hb hby at_34) rfl ?_
            show Steps p.tables e below (s₁.setTop (mkF m 35 #[.val (.int xx), .val (.int mode), .val (.int (mode &&& (3 : Int32))), .unset, .unset, .unset, .unset] [(.int (xx &&& (65535 : Int32)))])) t
            refine XS.istoreN X0.here hx rfl (hb hby at_35) rfl (l' := #[.val (.int xx), .val (.int mode), .val (.int (mode &&& (3 : Int32))), .val (.int (xx &&& (65535 : Int32))), .unset, .unset, .unset]) rfl ?_
            show Steps p.tables e below (s₁.setTop (mkF m 36 #[.val (.int xx), .val (.int mode), .val (.int (mode &&& (3 : Int32))), .val (.int (xx &&& (65535 : Int32))), .unset, .unset, .unset] [])) t
            refine XS.goto X0.here hx rfl (pc0 := 36) (pc' := 47) rfl (hb hby at_36) (by decide) (by decide) ?_
            exact kt
          exact ⟨s₁, ((xx &&& (65535 : Int32))), X0, e0, S8⟩
        · skip
          have S9 : ∀ t, Steps p.tables e below (s₁.setTop (mkF m 47 #[.val (.int xx), .val (.int mode), .val (.int (mode &&& (3 : Int32))), .val (.int ((64 : Int32) + (xx &&& (63 : Int32)))), .unset, .unset, .unset] [])) t → Steps p.tables e below (s₁.setTop (entryFrame m #[(.int xx), (.int mode)] maxLocals)) t := fun t kt => by
            refine S7 t ?_
            show Steps p.tables e below (s₁.setTop (mkF m 28 #[.val (.int xx), .val (.int mode), .val (.int (mode &&& (3 : Int32))), .unset, .unset, .unset, .unset] [(.int (2 : Int32)), (.int (mode &&& (3 : Int32)))])) t
            refine XS.icmpYes X0.here hx rfl (pc0 := 28) (pc' := 39) rfl (hb hby at_28) rfl (feq hc28).2 (by decide) (by decide) ?_
            show Steps p.tables e below (s₁.setTop (mkF m 39 #[.val (.int xx), .val (.int mode), .val (.int (mode &&& (3 : Int32))), .unset, .unset, .unset, .unset] [])) t
            refine XS.bipush X0.here hx rfl (hb hby at_39) ?_
            show Steps p.tables e below (s₁.setTop (mkF m 41 #[.val (.int xx), .val (.int mode), .val (.int (mode &&& (3 : Int32))), .unset, .unset, .unset, .unset] [(.int (64 : Int32))])) t
            refine XS.iloadN X0.here hx rfl (hb hby at_41) rfl ?_
            show Steps p.tables e below (s₁.setTop (mkF m 42 #[.val (.int xx), .val (.int mode), .val (.int (mode &&& (3 : Int32))), .unset, .unset, .unset, .unset] [(.int xx), (.int (64 : Int32))])) t
            refine XS.bipush X0.here hx rfl (hb hby at_42) ?_
            show Steps p.tables e below (s₁.setTop (mkF m 44 #[.val (.int xx), .val (.int mode), .val (.int (mode &&& (3 : Int32))), .unset, .unset, .unset, .unset] [(.int (63 : Int32)), (.int xx), (.int (64 : Int32))])) t
            refine XS.iand X0.here hx rfl (hb hby at_44) rfl ?_
            show Steps p.tables e below (s₁.setTop (mkF m 45 #[.val (.int xx), .val (.int mode), .val (.int (mode &&& (3 : Int32))), .unset, .unset, .unset, .unset] [(.int (xx &&& (63 : Int32))), (.int (64 : Int32))])) t
            refine XS.iadd X0.here hx rfl (hb hby at_45) rfl ?_
            show Steps p.tables e below (s₁.setTop (mkF m 46 #[.val (.int xx), .val (.int mode), .val (.int (mode &&& (3 : Int32))), .unset, .unset, .unset, .unset] [(.int ((64 : Int32) + (xx &&& (63 : Int32))))])) t
            refine XS.istoreN X0.here hx rfl (hb hby at_46) rfl (l' := #[.val (.int xx), .val (.int mode), .val (.int (mode &&& (3 : Int32))), .val (.int ((64 : Int32) + (xx &&& (63 : Int32)))), .unset, .unset, .unset]) rfl ?_
            exact kt
          exact ⟨s₁, (((64 : Int32) + (xx &&& (63 : Int32)))), X0, e0, S9⟩
  have S10 : ∀ t, Steps p.tables e below (T2.setTop (mkF m 52 #[.val (.int xx), .val (.int mode), .val (.int (mode &&& (3 : Int32))), .val (.int ch), .val (.long (576460745995190270 : Int64)), .second, .unset] [])) t → Steps p.tables e below (s₁.setTop (entryFrame m #[(.int xx), (.int mode)] maxLocals)) t := fun t kt => by
    refine S2 t ?_
    show Steps p.tables e below (T2.setTop (mkF m 47 #[.val (.int xx), .val (.int mode), .val (.int (mode &&& (3 : Int32))), .val (.int ch), .unset, .unset, .unset] [])) t
    refine X2.ldc2Long hx hown (mvT hZ (hw _ (List.mem_of_getElem? (i := 0) rfl))) (g := (mkF m 47 #[.val (.int xx), .val (.int mode), .val (.int (mode &&& (3 : Int32))), .val (.int ch), .unset, .unset, .unset] [])) rfl (hb hby at_47) _ ?_
    show Steps p.tables e below (T2.setTop (mkF m 50 #[.val (.int xx), .val (.int mode), .val (.int (mode &&& (3 : Int32))), .val (.int ch), .unset, .unset, .unset] [(.long (576460745995190270 : Int64))])) t
    refine XS.lstore X2.here hx rfl (hb hby at_50) rfl (l' := #[.val (.int xx), .val (.int mode), .val (.int (mode &&& (3 : Int32))), .val (.int ch), .val (.long (576460745995190270 : Int64)), .second, .unset]) rfl ?_
    exact kt
  obtain ⟨T11, b, X11, e11, hr52, S11⟩ : ∃ (T' : State) (b : Int32), own_like X2 T' ∧ T'.heap = h0 ∧ (b = own_b (own_ex ch)) ∧ (∀ t, Steps p.tables e below (T'.setTop (mkF m 84 #[.val (.int xx), .val (.int mode), .val (.int (mode &&& (3 : Int32))), .val (.int ch), .val (.long (576460745995190270 : Int64)), .second, .unset] [(.int b)])) t → Steps p.tables e below (s₁.setTop (entryFrame m #[(.int xx), (.int mode)] maxLocals)) t) := by
    have S12 : ∀ t, Steps p.tables e below (T2.setTop (mkF m 55 #[.val (.int xx), .val (.int mode), .val (.int (mode &&& (3 : Int32))), .val (.int ch), .val (.long (576460745995190270 : Int64)), .second, .unset] [(.int (64 : Int32)), (.int ch)])) t → Steps p.tables e below (s₁.setTop (entryFrame m #[(.int xx), (.int mode)] maxLocals)) t := fun t kt => by
      refine S10 t ?_
      show Steps p.tables e below (T2.setTop (mkF m 52 #[.val (.int xx), .val (.int mode), .val (.int (mode &&& (3 : Int32))), .val (.int ch), .val (.long (576460745995190270 : Int64)), .second, .unset] [])) t
      refine XS.iloadN X2.here hx rfl (hb hby at_52) rfl ?_
      show Steps p.tables e below (T2.setTop (mkF m 53 #[.val (.int xx), .val (.int mode), .val (.int (mode &&& (3 : Int32))), .val (.int ch), .val (.long (576460745995190270 : Int64)), .second, .unset] [(.int ch)])) t
      refine XS.bipush X2.here hx rfl (hb hby at_53) ?_
      exact kt
    by_cases hc55 : ch < (64 : Int32)
    · skip
      have S13 : ∀ t, Steps p.tables e below (T2.setTop (mkF m 84 #[.val (.int xx), .val (.int mode), .val (.int (mode &&& (3 : Int32))), .val (.int ch), .val (.long (576460745995190270 : Int64)), .second, .unset] [(.int (0 : Int32))])) t → Steps p.tables e below (s₁.setTop (entryFrame m #[(.int xx), (.int mode)] maxLocals)) t := fun t kt => by
        refine S12 t ?_
        show Steps p.tables e below (T2.setTop (mkF m 55 #[.val (.int xx), .val (.int mode), .val (.int (mode &&& (3 : Int32))), .val (.int ch), .val (.long (576460745995190270 : Int64)), .second, .unset] [(.int (64 : Int32)), (.int ch)])) t
        refine XS.icmpYes X2.here hx rfl (pc0 := 55) (pc' := 83) rfl (hb hby at_55) rfl (tlt hc55).1 (by decide) (by decide) ?_
        show Steps p.tables e below (T2.setTop (mkF m 83 #[.val (.int xx), .val (.int mode), .val (.int (mode &&& (3 : Int32))), .val (.int ch), .val (.long (576460745995190270 : Int64)), .second, .unset] [])) t
        refine XS.iconst X2.here hx rfl (hb hby at_83) ?_
        exact kt
      exact ⟨T2, ((0 : Int32)), X2, e2, (own_bf (by simp only [own_ex, decide_true, decide_false, not_true_eq_false, not_false_eq_true, and_true, true_and, and_false, false_and, and_self, or_true, true_or, or_false, false_or, or_self, if_true, if_false, Bool.not_true, Bool.not_false, Bool.and_true, Bool.true_and, Bool.and_false, Bool.false_and, *])), S13⟩
    · skip
      have S14 : ∀ t, Steps p.tables e below (T2.setTop (mkF m 62 #[.val (.int xx), .val (.int mode), .val (.int (mode &&& (3 : Int32))), .val (.int ch), .val (.long (576460745995190270 : Int64)), .second, .unset] [(.int (128 : Int32)), (.int ch)])) t → Steps p.tables e below (s₁.setTop (entryFrame m #[(.int xx), (.int mode)] maxLocals)) t := fun t kt => by
        refine S12 t ?_
        show Steps p.tables e below (T2.setTop (mkF m 55 #[.val (.int xx), .val (.int mode), .val (.int (mode &&& (3 : Int32))), .val (.int ch), .val (.long (576460745995190270 : Int64)), .second, .unset] [(.int (64 : Int32)), (.int ch)])) t
        refine XS.icmpNo X2.here hx rfl (hb hby at_55) rfl (flt hc55).1 ?_
        show Steps p.tables e below (T2.setTop (mkF m 58 #[.val (.int xx), .val (.int mode), .val (.int (mode &&& (3 : Int32))), .val (.int ch), .val (.long (576460745995190270 : Int64)), .second, .unset] [])) t
        refine XS.iloadN X2.here hx rfl (hb hby at_58) rfl ?_
        show Steps p.tables e below (T2.setTop (mkF m 59 #[.val (.int xx), .val (.int mode), .val (.int (mode &&& (3 : Int32))), .val (.int ch), .val (.long (576460745995190270 : Int64)), .second, .unset] [(.int ch)])) t
        refine XS.sipush X2.here hx rfl (hb hby at_59) ?_
        exact kt
      by_cases hc62 : ch < (128 : Int32)
      · skip
        have S15 : ∀ t, Steps p.tables e below (T2.setTop (mkF m 76 #[.val (.int xx), .val (.int mode), .val (.int (mode &&& (3 : Int32))), .val (.int ch), .val (.long (576460745995190270 : Int64)), .second, .unset] [(.int (lcmpW ((((576460745995190270 : Int64).toUInt64 >>> ((ch - (64 : Int32)) &&& 0x3f).toInt64.toUInt64).toInt64) &&& (1 : Int64)) (0 : Int64)))])) t → Steps p.tables e below (s₁.setTop (entryFrame m #[(.int xx), (.int mode)] maxLocals)) t := fun t kt => by
          refine S14 t ?_
          show Steps p.tables e below (T2.setTop (mkF m 62 #[.val (.int xx), .val (.int mode), .val (.int (mode &&& (3 : Int32))), .val (.int ch), .val (.long (576460745995190270 : Int64)), .second, .unset] [(.int (128 : Int32)), (.int ch)])) t
          refine XS.icmpNo X2.here hx rfl (hb hby at_62) rfl (tlt hc62).2.1 ?_
          show Steps p.tables e below (T2.setTop (mkF m 65 #[.val (.int xx), .val (.int mode), .val (.int (mode &&& (3 : Int32))), .val (.int ch), .val (.long (576460745995190270 : Int64)), .second, .unset] [])) t
          refine XS.lload X2.here hx rfl (hb hby at_65) rfl ?_
          show Steps p.tables e below (T2.setTop (mkF m 67 #[.val (.int xx), .val (.int mode), .val (.int (mode &&& (3 : Int32))), .val (.int ch), .val (.long (576460745995190270 : Int64)), .second, .unset] [(.long (576460745995190270 : Int64))])) t
          refine XS.iloadN X2.here hx rfl (hb hby at_67) rfl ?_
          show Steps p.tables e below (T2.setTop (mkF m 68 #[.val (.int xx), .val (.int mode), .val (.int (mode &&& (3 : Int32))), .val (.int ch), .val (.long (576460745995190270 : Int64)), .second, .unset] [(.int ch), (.long (576460745995190270 : Int64))])) t
          refine XS.bipush X2.here hx rfl (hb hby at_68) ?_
          show Steps p.tables e below (T2.setTop (mkF m 70 #[.val (.int xx), .val (.int mode), .val (.int (mode &&& (3 : Int32))), .val (.int ch), .val (.long (576460745995190270 : Int64)), .second, .unset] [(.int (64 : Int32)), (.int ch), (.long (576460745995190270 : Int64))])) t
          refine XS.isub X2.here hx rfl (hb hby at_70) rfl ?_
          show Steps p.tables e below (T2.setTop (mkF m 71 #[.val (.int xx), .val (.int mode), .val (.int (mode &&& (3 : Int32))), .val (.int ch), .val (.long (576460745995190270 : Int64)), .second, .unset] [(.int (ch - (64 : Int32))), (.long (576460745995190270 : Int64))])) t
          refine XS.lushr X2.here hx rfl (hb hby at_71) rfl ?_
          show Steps p.tables e below (T2.setTop (mkF m 72 #[.val (.int xx), .val (.int mode), .val (.int (mode &&& (3 : Int32))), .val (.int ch), .val (.long (576460745995190270 : Int64)), .second, .unset] [(.long (((576460745995190270 : Int64).toUInt64 >>> ((ch - (64 : Int32)) &&& 0x3f).toInt64.toUInt64).toInt64))])) t
          refine XS.lconst X2.here hx rfl (hb hby at_72) ?_
          show Steps p.tables e below (T2.setTop (mkF m 73 #[.val (.int xx), .val (.int mode), .val (.int (mode &&& (3 : Int32))), .val (.int ch), .val (.long (576460745995190270 : Int64)), .second, .unset] [(.long (1 : Int64)), (.long (((576460745995190270 : Int64).toUInt64 >>> ((ch - (64 : Int32)) &&& 0x3f).toInt64.toUInt64).toInt64))])) t
          refine XS.land X2.here hx rfl (hb hby at_73) rfl ?_
          show Steps p.tables e below (T2.setTop (mkF m 74 #[.val (.int xx), .val (.int mode), .val (.int (mode &&& (3 : Int32))), .val (.int ch), .val (.long (576460745995190270 : Int64)), .second, .unset] [(.long ((((576460745995190270 : Int64).toUInt64 >>> ((ch - (64 : Int32)) &&& 0x3f).toInt64.toUInt64).toInt64) &&& (1 : Int64)))])) t
          refine XS.lconst X2.here hx rfl (hb hby at_74) ?_
          show Steps p.tables e below (T2.setTop (mkF m 75 #[.val (.int xx), .val (.int mode), .val (.int (mode &&& (3 : Int32))), .val (.int ch), .val (.long (576460745995190270 : Int64)), .second, .unset] [(.long (0 : Int64)), (.long ((((576460745995190270 : Int64).toUInt64 >>> ((ch - (64 : Int32)) &&& 0x3f).toInt64.toUInt64).toInt64) &&& (1 : Int64)))])) t
          refine XS.lcmp X2.here hx rfl (hb hby at_75) rfl ?_
          exact kt
        by_cases hc76 : ((((576460745995190270 : Int64).toUInt64 >>> ((ch - (64 : Int32)) &&& 0x3f).toInt64.toUInt64).toInt64) &&& (1 : Int64)) = (0 : Int64)
        · skip
          have S16 : ∀ t, Steps p.tables e below (T2.setTop (mkF m 84 #[.val (.int xx), .val (.int mode), .val (.int (mode &&& (3 : Int32))), .val (.int ch), .val (.long (576460745995190270 : Int64)), .second, .unset] [(.int (0 : Int32))])) t → Steps p.tables e below (s₁.setTop (entryFrame m #[(.int xx), (.int mode)] maxLocals)) t := fun t kt => by
            refine S15 t ?_
            show Steps p.tables e below (T2.setTop (mkF m 76 #[.val (.int xx), .val (.int mode), .val (.int (mode &&& (3 : Int32))), .val (.int ch), .val (.long (576460745995190270 : Int64)), .second, .unset] [(.int (lcmpW ((((576460745995190270 : Int64).toUInt64 >>> ((ch - (64 : Int32)) &&& 0x3f).toInt64.toUInt64).toInt64) &&& (1 : Int64)) (0 : Int64)))])) t
            refine XS.ifYes X2.here hx rfl (pc0 := 76) (pc' := 83) rfl (hb hby at_76) rfl (own_Leq hc76).1 (by decide) (by decide) ?_
            show Steps p.tables e below (T2.setTop (mkF m 83 #[.val (.int xx), .val (.int mode), .val (.int (mode &&& (3 : Int32))), .val (.int ch), .val (.long (576460745995190270 : Int64)), .second, .unset] [])) t
            refine XS.iconst X2.here hx rfl (hb hby at_83) ?_
            exact kt
          exact ⟨T2, ((0 : Int32)), X2, e2, (own_bf (by simp only [own_ex, decide_true, decide_false, not_true_eq_false, not_false_eq_true, and_true, true_and, and_false, false_and, and_self, or_true, true_or, or_false, false_or, or_self, if_true, if_false, Bool.not_true, Bool.not_false, Bool.and_true, Bool.true_and, Bool.and_false, Bool.false_and, *])), S16⟩
        · skip
          have S17 : ∀ t, Steps p.tables e below (T2.setTop (mkF m 84 #[.val (.int xx), .val (.int mode), .val (.int (mode &&& (3 : Int32))), .val (.int ch), .val (.long (576460745995190270 : Int64)), .second, .unset] [(.int (1 : Int32))])) t → Steps p.tables e below (s₁.setTop (entryFrame m #[(.int xx), (.int mode)] maxLocals)) t := fun t kt => by
            refine S15 t ?_
            show Steps p.tables e below (T2.setTop (mkF m 76 #[.val (.int xx), .val (.int mode), .val (.int (mode &&& (3 : Int32))), .val (.int ch), .val (.long (576460745995190270 : Int64)), .second, .unset] [(.int (lcmpW ((((576460745995190270 : Int64).toUInt64 >>> ((ch - (64 : Int32)) &&& 0x3f).toInt64.toUInt64).toInt64) &&& (1 : Int64)) (0 : Int64)))])) t
            refine XS.ifNo X2.here hx rfl (hb hby at_76) rfl (own_Lne hc76).1 ?_
            show Steps p.tables e below (T2.setTop (mkF m 79 #[.val (.int xx), .val (.int mode), .val (.int (mode &&& (3 : Int32))), .val (.int ch), .val (.long (576460745995190270 : Int64)), .second, .unset] [])) t
            refine XS.iconst X2.here hx rfl (hb hby at_79) ?_
            show Steps p.tables e below (T2.setTop (mkF m 80 #[.val (.int xx), .val (.int mode), .val (.int (mode &&& (3 : Int32))), .val (.int ch), .val (.long (576460745995190270 : Int64)), .second, .unset] [(.int (1 : Int32))])) t
            refine XS.goto X2.here hx rfl (pc0 := 80) (pc' := 84) rfl (hb hby at_80) (by decide) (by decide) ?_
            exact kt
          exact ⟨T2, ((1 : Int32)), X2, e2, (own_bt (by simp only [own_ex, decide_true, decide_false, not_true_eq_false, not_false_eq_true, and_true, true_and, and_false, false_and, and_self, or_true, true_or, or_false, false_or, or_self, if_true, if_false, Bool.not_true, Bool.not_false, Bool.and_true, Bool.true_and, Bool.and_false, Bool.false_and, *])), S17⟩
      · skip
        have S18 : ∀ t, Steps p.tables e below (T2.setTop (mkF m 84 #[.val (.int xx), .val (.int mode), .val (.int (mode &&& (3 : Int32))), .val (.int ch), .val (.long (576460745995190270 : Int64)), .second, .unset] [(.int (0 : Int32))])) t → Steps p.tables e below (s₁.setTop (entryFrame m #[(.int xx), (.int mode)] maxLocals)) t := fun t kt => by
          refine S14 t ?_
          show Steps p.tables e below (T2.setTop (mkF m 62 #[.val (.int xx), .val (.int mode), .val (.int (mode &&& (3 : Int32))), .val (.int ch), .val (.long (576460745995190270 : Int64)), .second, .unset] [(.int (128 : Int32)), (.int ch)])) t
          refine XS.icmpYes X2.here hx rfl (pc0 := 62) (pc' := 83) rfl (hb hby at_62) rfl (flt hc62).2.1 (by decide) (by decide) ?_
          show Steps p.tables e below (T2.setTop (mkF m 83 #[.val (.int xx), .val (.int mode), .val (.int (mode &&& (3 : Int32))), .val (.int ch), .val (.long (576460745995190270 : Int64)), .second, .unset] [])) t
          refine XS.iconst X2.here hx rfl (hb hby at_83) ?_
          exact kt
        exact ⟨T2, ((0 : Int32)), X2, e2, (own_bf (by simp only [own_ex, decide_true, decide_false, not_true_eq_false, not_false_eq_true, and_true, true_and, and_false, false_and, and_self, or_true, true_or, or_false, false_or, or_self, if_true, if_false, Bool.not_true, Bool.not_false, Bool.and_true, Bool.true_and, Bool.and_false, Bool.false_and, *])), S18⟩
  have S20 : ∀ t, Steps p.tables e below (T11.setTop (mkF m 87 #[.val (.int xx), .val (.int mode), .val (.int (mode &&& (3 : Int32))), .val (.int ch), .val (.long (576460745995190270 : Int64)), .second, .val (.int b)] [(.int ch)])) t → Steps p.tables e below (s₁.setTop (entryFrame m #[(.int xx), (.int mode)] maxLocals)) t := fun t kt => by
    refine S11 t ?_
    show Steps p.tables e below (T11.setTop (mkF m 84 #[.val (.int xx), .val (.int mode), .val (.int (mode &&& (3 : Int32))), .val (.int ch), .val (.long (576460745995190270 : Int64)), .second, .unset] [(.int b)])) t
    refine XS.istore X11.here hx rfl (hb hby at_84) rfl (l' := #[.val (.int xx), .val (.int mode), .val (.int (mode &&& (3 : Int32))), .val (.int ch), .val (.long (576460745995190270 : Int64)), .second, .val (.int b)]) rfl ?_
    show Steps p.tables e below (T11.setTop (mkF m 86 #[.val (.int xx), .val (.int mode), .val (.int (mode &&& (3 : Int32))), .val (.int ch), .val (.long (576460745995190270 : Int64)), .second, .val (.int b)] [])) t
    refine XS.iloadN X11.here hx rfl (hb hby at_86) rfl ?_
    exact kt
  obtain ⟨_, _, ⟨T21, L21, k21, n21⟩, -, X21, ⟨Lc21, hQ21, l21, y21, z21⟩, st21⟩ := Jvm.LawKit.callS X11 hx (y := (⟨"com/example/quillpack/quillpack/schema/Names", "isNameStart", "(I)Z"⟩ : MethodName)) hown (mvT hZ (hw _ (List.mem_of_getElem? (i := 1) rfl))) (mvT hZ (hw _ (List.mem_of_getElem? (i := 2) rfl))) (mvT hZ (hw _ (List.mem_of_getElem? (i := 3) rfl))) (mvT hZ (hw _ (List.mem_of_getElem? (i := 4) rfl))) (by decide) (backOf (W := 0) (own_rm1 l Z a0 hw [] (ch) h0 n0 Z0) hZ (hw _ (List.mem_of_getElem? (i := 4) rfl)) (hw _ (List.mem_of_getElem? (i := 3) rfl)) (by decide) (by decide)) (g := (mkF m 87 #[.val (.int xx), .val (.int mode), .val (.int (mode &&& (3 : Int32))), .val (.int ch), .val (.long (576460745995190270 : Int64)), .second, .val (.int b)] [(.int ch)])) rfl (by rw [hml]; rfl) (argsL := [(.int ch)]) (rest := []) (lenOf own_pd0 rfl) rfl (by show 2 * 0 + _ ≤ _; exact Nat.le_of_eq rfl) (hb hby at_87) (fun _ _ => ⟨rfl, e11, (by decide : 0 + 0 ≤ _), (by decide : 0 + 0 ≤ _)⟩)
  dsimp only [Pt.U, Pt.locs, Pt.cells, Pt.slots] at X21 l21 y21 z21 st21 hQ21
  subst l21 y21 z21
  obtain ⟨rfl, rfl, eq19⟩ := hQ21
  try rw [List.append_nil] at X21
  have S22 : ∀ t, Steps p.tables e below (T21.setTop (mkF m 90 #[.val (.int xx), .val (.int mode), .val (.int (mode &&& (3 : Int32))), .val (.int ch), .val (.long (576460745995190270 : Int64)), .second, .val (.int b)] [(.int (own_b (own_isNS ch)))])) t → Steps p.tables e below (s₁.setTop (entryFrame m #[(.int xx), (.int mode)] maxLocals)) t := fun t kt => S20 t (st21 _ kt)
  have S23 : ∀ t, Steps p.tables e below (T21.setTop (mkF m 92 #[.val (.int xx), .val (.int mode), .val (.int (mode &&& (3 : Int32))), .val (.int ch), .val (.long (576460745995190270 : Int64)), .second, .val (.int b)] [(.int b), (.int (own_b (own_isNS ch)))])) t → Steps p.tables e below (s₁.setTop (entryFrame m #[(.int xx), (.int mode)] maxLocals)) t := fun t kt => by
    refine S22 t ?_
    show Steps p.tables e below (T21.setTop (mkF m 90 #[.val (.int xx), .val (.int mode), .val (.int (mode &&& (3 : Int32))), .val (.int ch), .val (.long (576460745995190270 : Int64)), .second, .val (.int b)] [(.int (own_b (own_isNS ch)))])) t
    refine XS.iload X21.here hx rfl (hb hby at_90) rfl ?_
    exact kt
  have hc92_24 : (own_b (own_isNS ch)) = b := by rw [hr52, own_plain ch]
  have S25 : ∀ t, Steps p.tables e below (T21.setTop (mkF m 100 #[.val (.int xx), .val (.int mode), .val (.int (mode &&& (3 : Int32))), .val (.int ch), .val (.long (576460745995190270 : Int64)), .second, .val (.int b)] [(.int (1 : Int32))])) t → Steps p.tables e below (s₁.setTop (entryFrame m #[(.int xx), (.int mode)] maxLocals)) t := fun t kt => by
    refine S23 t ?_
    show Steps p.tables e below (T21.setTop (mkF m 92 #[.val (.int xx), .val (.int mode), .val (.int (mode &&& (3 : Int32))), .val (.int ch), .val (.long (576460745995190270 : Int64)), .second, .val (.int b)] [(.int b), (.int (own_b (own_isNS ch)))])) t
    refine XS.icmpNo X21.here hx rfl (hb hby at_92) rfl (teq hc92_24).2 ?_
    show Steps p.tables e below (T21.setTop (mkF m 95 #[.val (.int xx), .val (.int mode), .val (.int (mode &&& (3 : Int32))), .val (.int ch), .val (.long (576460745995190270 : Int64)), .second, .val (.int b)] [])) t
    refine XS.iconst X21.here hx rfl (hb hby at_95) ?_
    show Steps p.tables e below (T21.setTop (mkF m 96 #[.val (.int xx), .val (.int mode), .val (.int (mode &&& (3 : Int32))), .val (.int ch), .val (.long (576460745995190270 : Int64)), .second, .val (.int b)] [(.int (1 : Int32))])) t
    refine XS.goto X21.here hx rfl (pc0 := 96) (pc' := 100) rfl (hb hby at_96) (by decide) (by decide) ?_
    exact kt
  obtain ⟨fs, hr, hrun, hended, hW, hsame⟩ := X21.leave (v := some (.int (nar .boolean (1 : Int32)))) (fun h => by rw [Bd.returns] at h; cases h)
  refine ⟨_, _, S25 _ ?_, hrun, hended, _, _, rfl, ?_, ⟨_, rfl⟩, hW, hsame.mono (by decide) (by decide)⟩
  · show Steps p.tables e below (T21.setTop (mkF m 100 #[.val (.int xx), .val (.int mode), .val (.int (mode &&& (3 : Int32))), .val (.int ch), .val (.long (576460745995190270 : Int64)), .second, .val (.int b)] [(.int (1 : Int32))])) _
    exact retN X21 hx (t := .boolean) Bd.returns (by simp) (hb hby at_100) hr
  · show own_Q0 Z xx mode h0 n0 _ T21.heap _
    rw [eq19]
    exact ⟨rfl, N0⟩
set_option maxHeartbeats 40000000 in
theorem own_comes {Post : Tables → Env → Array Value → State → Outcome → State → Prop} (hpost : ∀ tb e args s v u, (limb_1_1.after args s (.returned v) u = true ∧ limb_1_2.after args s (.returned v) u = true ∧ True) → FrameEnd s (.returned v) u (Jvm.fieldLocs frame_1_writes args s ++ Jvm.arrayLocs frame_1_arrays args s ++ Jvm.staticLocs frame_1_statics s) 0 0 → Post tb e args s (.returned v) u) :
    ArmFor flags0 classFile x code maxLocals ret World_1 tables_1 room_1 Calls_1 rest_1 Pre_1 Post := by
  intro l hfl _ _ p e ha hc hk s m args below hf hA hF happ hP
  obtain ⟨hcalls, hrest, hpre⟩ := hP
  obtain ⟨-, -, -, hnamed, -, -, -, hat⟩ := (Spec.applies_iff hf).mp happ
  obtain ⟨hg, hn⟩ := and_e (Cond.before_iff.mp (show (Jvm.Cond.and given_1 narrow_1).before args s = true from hpre))
  obtain ⟨g1, g2⟩ := and_e hg
  obtain ⟨g3, g4⟩ := and_e g2
  obtain ⟨w0, w1, rfl⟩ : ∃ w0 w1 : Value, args = #[w0, w1] := by
    have hs : args.size = 2 := by simpa [Cond.value, given_1] using g1
    obtain ⟨L⟩ := args
    match L, hs with
    | [w0, w1], _ => exact ⟨w0, w1, rfl⟩
  have hw := fun d (hd : d ∈ tables_1) => atoms_spec (ws := Jvm.Cond.code x code maxLocals ret :: tables_1) hat d (List.mem_cons_of_mem _ hd)
  have hfit : Fit s := fun {y c} hc i hi => by
    obtain ⟨ha, rfl⟩ := Array.getElem?_eq_some_iff.mp hc
    have q := List.all_eq_true.mp ((Array.all_eq_true_iff_forall_mem.mp hF) _ (Array.getElem_mem ha)) i (List.mem_range.mpr hi)
    simpa [Array.getElem?_eq_getElem hi] using q
  obtain ⟨i0, ei0⟩ := is_v g3
  obtain rfl : w0 = (.int i0) := Option.some.inj ei0
  obtain ⟨i1, ei1⟩ := is_v g4
  obtain rfl : w1 = (.int i1) := Option.some.inj ei1
  obtain ⟨n, o, h1, h2, h3, _, L, rfl, ⟨rfl, N⟩, hq⟩ := own_rm0 l s _ hw tables_1 i0 i1  s.heap s.heap.size (Nat.le_refl _)  p e ha hc hk s m _ below hf ((Spec.applies_iff_loose hf).mp happ).1 ⟨rfl, State.Warmed39.refl s, rfl⟩ trivial
  refine ⟨n, _, h1, h2, h3, hpost _ _ _ _ _ _ ⟨Cond.after_iff.mpr rfl, Cond.after_iff.mpr (eq_i res_at (Term.int_eval (1)) rfl), trivial⟩ ⟨hq.1, hq.2.1, (hq.2.2.sift fun y hy => Or.inr (N y hy)).mono (by decide) (by decide)⟩⟩
theorem main_1_1 : Claimed_1_1 := own_comes fun _ _ _ _ _ _ h hF => ⟨h.1, hF⟩
theorem main_1_2 : Claimed_1_2 := own_comes fun _ _ _ _ _ _ h hF => ⟨h.2.1, hF⟩
end Jvm.Pilot.@@N@@
namespace Jvm.Pilot.@@N@@
open Jvm Jvm.ClassFile Sem Op Lib Jvm.Free Jvm.Stand Jvm.Pilot.@@N@@.Jvm.D
/-! MADE BY PROGRAM (witnessworld.py) out of the Statement's table words and the real class files: 9 classes; the members and pool entries that the words name. The judged class is class 1, her method 1. -/
namespace start1
open Jvm.ClassFile
def u (s : String) : CpInfo := .utf8 (stringToUtf16 s)
/-- a pool by its gaps: so many unusable entries, then the entry; so many at the end -/
def gap : Nat → List CpInfo → List CpInfo
  | 0, r => r
  | n + 1, r => .unusable :: gap n r
def poolList (es : List (Nat × CpInfo)) (last : Nat) : List CpInfo := es.foldr (fun e r => gap e.1 (e.2 :: r)) (gap last [])
def pool (es : List (Nat × CpInfo)) (last : Nat) : Array CpInfo := ⟨poolList es last⟩
def fileOf (pool : Array CpInfo) (this : Nat) (attrs : Array Attribute := #[]) (ms : Array MethodInfo := #[]) (fl : Nat := 33) (sup : Nat := 0) (ifs : Array Nat := #[]) (fds : Array FieldInfo := #[]) : ClassFile where
  minorVersion := 0
  majorVersion := 65
  constantPool := pool
  accessFlags := fl
  thisClass := this
  superClass := sup
  interfaces := ifs
  fields := fds
  methods := ms
  attributes := attrs
def plain (name : String) (sup : Option ClassId) : Class where
  name := name
  kind := .ordinary
  loader := none
  accessFlags := 33
  super := sup
  interfaces := #[]
  cf := none
  fields := #[]
  methods := #[]
  instanceTypes := #[]
  staticTypes := #[]
  resolved := #[]
  callSites := []
  init := .initialized
  statics := none
  mirror := none

def pool0 : Array CpInfo := pool [(5, u "<init>"), (0, u "()V"), (1, .class_ 10), (1, u "java/lang/Object")] 113

def k0m0 : Method := { name := "<init>", desc := "()V", sig := { parameters := [], returnType := none }, accessFlags := 1, code := none }
/-- java/lang/Object -/
def k0 : Class := { plain "java/lang/Object" none with
  accessFlags := 33
  interfaces := #[]
  cf := some (fileOf pool0 8 #[] #[{ accessFlags := 1, nameIndex := 5, descriptorIndex := 6, attributes := #[] }] 33 0 #[] #[])
  fields := #[]
  methods := #[k0m0]
  instanceTypes := #[]
  staticTypes := #[]
  resolved := Array.replicate 124 none
  statics := none }

def pool1 : Array CpInfo := pool [(2, .class_ 4), (1, u "java/lang/Object"), (0, u "<init>"), (0, u "()V"), (0, .integer 65535), (0, .long 576460745995190270), (1, .methodref 11 12), (0, .class_ 13), (0, .nameAndType 14 15), (0, u "com/example/quillpack/quillpack/schema/Names"), (0, u "isNameStart"), (0, u "(I)Z"), (0, .class_ 17), (0, u "com/example/quillpack/quillpack/schema/NamesIsNameStartPinLaw"), (2, u "law"), (0, u "(II)Z")] 3

def k1m0 : Method := { name := "<init>", desc := "()V", sig := { parameters := [], returnType := none }, accessFlags := 1, code := none }
def k1c1 : Code := { maxStack := 4, maxLocals := 7, code := code, exceptionTable := #[], attributes := #[] }
def k1m1 : Method := { name := "law", desc := "(II)Z", sig := { parameters := [.int, .int], returnType := some .boolean }, accessFlags := 9, code := some k1c1 }
/-- com/example/quillpack/quillpack/schema/NamesIsNameStartPinLaw -/
def k1 : Class := { plain "com/example/quillpack/quillpack/schema/NamesIsNameStartPinLaw" (some 0) with
  accessFlags := 49
  interfaces := #[]
  cf := some (fileOf pool1 16 #[] #[{ accessFlags := 1, nameIndex := 5, descriptorIndex := 6, attributes := #[] }, { accessFlags := 9, nameIndex := 20, descriptorIndex := 21, attributes := #[] }] 49 2 #[] #[])
  fields := #[]
  methods := #[k1m0, k1m1]
  instanceTypes := #[]
  staticTypes := #[]
  resolved := Array.replicate 25 none
  statics := none }

def pool2 : Array CpInfo := pool [(2, .class_ 4), (1, u "java/lang/Object"), (0, u "<init>"), (0, u "()V"), (11, .class_ 20), (1, u "com/example/quillpack/quillpack/schema/Names"), (0, u "isNameStart"), (0, u "(I)Z"), (9, u "TYPE_NAMES"), (0, u "Ljava/util/Set;")] 58

def k2m0 : Method := { name := "<init>", desc := "()V", sig := { parameters := [], returnType := none }, accessFlags := 2, code := none }
def k2c1 : Code := { maxStack := 2, maxLocals := 1, code := prog_81_method_3_code, exceptionTable := #[], attributes := #[] }
def k2m1 : Method := { name := "isNameStart", desc := "(I)Z", sig := { parameters := [.int], returnType := some .boolean }, accessFlags := 9, code := some k2c1 }
/-- com/example/quillpack/quillpack/schema/Names -/
def k2 : Class := { plain "com/example/quillpack/quillpack/schema/Names" (some 0) with
  accessFlags := 33
  interfaces := #[]
  cf := some (fileOf pool2 18 #[] #[{ accessFlags := 2, nameIndex := 5, descriptorIndex := 6, attributes := #[] }, { accessFlags := 9, nameIndex := 21, descriptorIndex := 22, attributes := #[] }] 33 2 #[] #[{ accessFlags := 26, nameIndex := 32, descriptorIndex := 33, attributes := #[] }])
  fields := #[{ name := "TYPE_NAMES", type := (.object "java/util/Set"), accessFlags := 26, slot := 0, constantValue := 0 }]
  methods := #[k2m0, k2m1]
  instanceTypes := #[]
  staticTypes := #[(.object "java/util/Set")]
  resolved := Array.replicate 92 none
  statics := none }

def pool3 : Array CpInfo := pool [(1, u "java/lang/Cloneable"), (0, .class_ 1), (0, u "java/lang/Object"), (0, .class_ 3)] 3

/-- java/lang/Cloneable -/
def k3 : Class := { plain "java/lang/Cloneable" (some 0) with
  accessFlags := 1537
  interfaces := #[]
  cf := some (fileOf pool3 2 #[] #[] 1537 4 #[] #[])
  fields := #[]
  methods := #[]
  instanceTypes := #[]
  staticTypes := #[]
  resolved := Array.replicate 8 none
  statics := none }

def pool4 : Array CpInfo := pool [(1, u "java/io/Serializable"), (0, .class_ 1), (0, u "java/lang/Object"), (0, .class_ 3)] 3

/-- java/io/Serializable -/
def k4 : Class := { plain "java/io/Serializable" (some 0) with
  accessFlags := 1537
  interfaces := #[]
  cf := some (fileOf pool4 2 #[] #[] 1537 4 #[] #[])
  fields := #[]
  methods := #[]
  instanceTypes := #[]
  staticTypes := #[]
  resolved := Array.replicate 8 none
  statics := none }

/-- the primitive byte -/
def k5 : Class := { plain "byte" none with kind := .primitive 'B', accessFlags := 0x411 }
/-- [B -/
def k6 : Class := { plain "[B" (some 0) with kind := .array 5 .byte, interfaces := #[3, 4], accessFlags := 1041 }

/-- the primitive int -/
def k7 : Class := { plain "int" none with kind := .primitive 'I', accessFlags := 0x411 }
/-- [I -/
def k8 : Class := { plain "[I" (some 0) with kind := .array 7 .int, interfaces := #[3, 4], accessFlags := 1041 }

def heap : Heap := #[]
def classes : Array Class := #[k0, k1, k2, k3, k4, k5, k6, k7, k8]
def interned : List (Array UInt16 × Addr) := []
def slotsUsed : Nat := 0
def theMethod : MethodId := ⟨1, 1⟩
def args0 : Array Value := #[.int 70, .int 0]
def aboutOver (below : List Frame) : State where
  vm := { classes := classes, interned := interned.toArray }
  heap := heap
  slotsUsed := slotsUsed
  threads := #[{ frames := .invoking theMethod args0 :: below }]
def below0 : List Frame := [.native { method := ⟨0, 0⟩, args := #[] }]
def about1 : State := aboutOver below0
def p0 : Program := .bare "" "" ""
def e0 : Env := launch0.env 0 0 0
theorem w_frames : about1.frames = Frame.invoking theMethod args0 :: below0 := rfl
set_option maxRecDepth 65536 in
theorem w_args : argsFit about1.vm theMethod args0 = true := by decide +kernel
set_option maxRecDepth 65536 in
theorem w_heap : heapFits about1 = true := by decide +kernel
set_option maxRecDepth 65536 in
theorem w_runnable : about1.curStatus? = some .runnable := by decide +kernel
set_option maxRecDepth 65536 in
theorem w_alone : about1.alone = true := by decide +kernel
set_option maxRecDepth 65536 in
theorem w_named : about1.methodNamed? x = some theMethod := by decide +kernel
set_option maxRecDepth 65536 in
theorem w_hears : about1.hears theMethod below0 = true := by decide +kernel
set_option maxRecDepth 65536 in
theorem w_ripe : about1.ripe theMethod args0 below0 = true := by decide +kernel
theorem w_running : about1.status = .running := rfl
set_option maxRecDepth 65536 in
theorem w_room : about1.hasRoom e0.platform room_1 = true :=
  launch0.hasRoom_least _ room_1 (by decide +kernel) (by decide +kernel) (by decide +kernel) (by decide +kernel) (by decide +kernel) (by decide +kernel)
theorem allAtoms_all (ts : List Jvm.Cond) (a : Array Jvm.Value) (st : Jvm.State) : (allAtoms ts).before a st = ts.all (fun c => c.before a st) := by
  induction ts with
  | nil => rfl
  | cons c t ih =>
    show (Jvm.Cond.and c (allAtoms t)).before a st = _
    rw [Jvm.Cond.before_and, ih, List.all_cons]
def words1 : List Jvm.Cond := Jvm.Cond.code x code maxLocals ret :: tables_1
/-- a 'code' word, met by the world's own term for the bytes: nothing is compared byte by byte -/
theorem code_word {y : MethodName} {bytes : ByteArray} {mx : Nat} {rt : Option FieldType} {a : Array Value} {s : State} {m : MethodId} {meth : Method} {c : Code} (h1 : s.methodNamed? y = some m) (h2 : s.vm.method? m = some meth) (h3 : meth.code = some c) (h4 : c.code = bytes)
    (h5 : (c.maxLocals == mx && c.exceptionTable.isEmpty && decide (c.maxStack ≤ mostOperands) && decide (meth.sig.returnType = rt) && !meth.locks && decide (parseMethodDescriptor y.desc = some meth.sig)) = true) : (Jvm.Cond.code y bytes mx rt).before a s = true := by
  simp only [Bool.and_eq_true, beq_iff_eq, Bool.not_eq_true', decide_eq_true_eq] at h5
  obtain ⟨⟨⟨⟨⟨g1, g2⟩, g3⟩, g4⟩, g5⟩, g6⟩ := h5
  simp [Cond.before, Cond.holds, Cond.value, h1, h2, h3, h4, g1, g2, g3, g4, g5, g6]
def isCode : Jvm.Cond → Bool
  | .code _ _ _ _ => true
  | _ => false
theorem all_split {L : List Jvm.Cond} {P : Jvm.Cond → Bool} (h1 : L.all (fun c => isCode c || P c) = true) (h2 : ∀ c ∈ L.filter isCode, P c = true) : L.all P = true := by
  refine List.all_eq_true.mpr fun c hc => ?_
  have h := List.all_eq_true.mp h1 c hc
  rcases Bool.eq_false_or_eq_true (isCode c) with hi | hi
  · exact h2 c (List.mem_filter.mpr ⟨hc, hi⟩)
  · simpa [hi] using h
set_option maxRecDepth 65536 in
theorem w_c0 : (Jvm.Cond.code x code maxLocals ret).before args0 about1 = true := code_word (m := ⟨1, 1⟩) (meth := k1m1) (c := k1c1) (by decide +kernel) rfl rfl rfl (by decide +kernel)
set_option maxRecDepth 65536 in
theorem w_c1 : (Jvm.Cond.code ({ cls := "com/example/quillpack/quillpack/schema/Names", name := "isNameStart", desc := "(I)Z" } : Jvm.MethodName) prog_81_method_3_code (1 : Nat) (Option.some Jvm.ClassFile.FieldType.boolean)).before args0 about1 = true := code_word (m := ⟨2, 1⟩) (meth := k2m1) (c := k2c1) (by decide +kernel) rfl rfl rfl (by decide +kernel)
def codes1 : List Jvm.Cond := [Jvm.Cond.code x code maxLocals ret, Jvm.Cond.code ({ cls := "com/example/quillpack/quillpack/schema/Names", name := "isNameStart", desc := "(I)Z" } : Jvm.MethodName) prog_81_method_3_code (1 : Nat) (Option.some Jvm.ClassFile.FieldType.boolean)]
set_option maxRecDepth 65536 in
theorem codes_eq : words1.filter isCode = codes1 := rfl
theorem w_codes : ∀ c ∈ words1.filter isCode, c.before args0 about1 = true := by
  rw [codes_eq]
  intro c hc
  simp only [codes1, List.mem_cons, List.not_mem_nil, or_false] at hc
  rcases hc with rfl | rfl
  · exact w_c0
  · exact w_c1
set_option maxRecDepth 65536 in
theorem w_t1 : words1.all (fun c => isCode c || c.before args0 about1) = true := by decide +kernel
theorem w_tables : (allAtoms (Jvm.Cond.code x code maxLocals ret :: tables_1)).before args0 about1 = true := by
  rw [allAtoms_all]
  show words1.all (fun c => c.before args0 about1) = true
  refine all_split ?_ w_codes
  rw [w_t1]
set_option maxRecDepth 65536 in
theorem w_case : (Jvm.Cond.and given_1 narrow_1).before args0 about1 = true := by decide +kernel
theorem w_applies : (headSpec (Jvm.Cond.code x code maxLocals ret :: tables_1) room_1).applies x e0.platform about1 = true :=
  (Spec.applies_iff w_frames).mpr ⟨w_running, w_runnable, w_alone, w_named, w_hears, w_ripe, w_room, w_tables⟩
theorem atStart : AtStart classFile x code maxLocals ret World_1 tables_1 room_1 Calls_1 rest_1 Pre_1 launch0 p0 e0 about1 theMethod args0 below0 :=
  ⟨lists_1, trivial, launch0.admits_env _ _ _, launch0.least_env, fairChoices_fair.cas, fairChoices_fair.clock, w_frames, w_args, w_heap, w_applies, trivial, trivial, w_case⟩
end start1
theorem witness_1 : WitnessClaimed_1 := ⟨start1.p0, start1.e0, start1.about1, start1.theMethod, start1.args0, start1.below0, start1.atStart⟩
end Jvm.Pilot.@@N@@
