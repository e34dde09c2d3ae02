import JvmDerived
import JvmDerived.Pilot.@@N@@Statement
import JvmDerived.Pilot.@@N@@Code
set_option linter.unusedVariables false
set_option linter.unusedSimpArgs false
set_option maxRecDepth 65536
namespace Jvm.Pilot.@@N@@
open Jvm Jvm.ClassFile Sem Op Lib Jvm.Free Jvm.Stand Jvm.LawKit Jvm.RoadKit Bundle Jvm.Pilot.@@N@@.Jvm.D
section OwnKit
variable {p : Program} {l : Launch} {e : Env} {R : Room} {s : State} {m : MethodId} {args : Array Value} {below : List Frame} {meth : Method} {c : Code} {T : State} {locs : List Loc} {cells slots : Nat}
theorem own_retI (X : Stand p l e R s m args below meth c T locs cells slots) (hx : p.tables.exec = Jvm.exec) {pc : Nat} {Ls : Array Slot} {z : Int32} {rest : List Value} (hret : meth.sig.returnType = some .int) (hd : decode c.code pc = .ok (.ireturn, 1)) {fs : List Frame}
    (hl : ∀ (f : JFrame) (acts : List Action), f.method = m → f.locked = none → f.entered = [] → (doReturn e (T.setTop f) acts (some (.int z))).1 = T.setFrames fs) : Steps p.tables e below (T.setTop (mkF m pc Ls (.int z :: rest))) (T.setFrames fs) := by
  have hm' : T.vm.method? m = some meth := X.method'
  have hn : narrow .int (.int z) = .int z := rfl
  show Steps p.tables e below (T.setTop { method := m, pc := pc, locals := Ls, stack := _ :: rest, locked := none }) _
  jvm_step X.here [X.here.top, hx, hd, hm', hret, hn]
  first | (intro acts; rw [hl _ acts rfl rfl rfl]) | rw [hl _ _ rfl rfl rfl]
  exact Steps.refl _
/-- where the run stands, with the same writes and figures as at X -/
abbrev own_like (_ : Stand p l e R s m args below meth c T locs cells slots) (T' : State) : Prop := Stand p l e R s m args below meth c T' locs cells slots
end OwnKit
theorem own_Llt {a b : Int64} (h : a < b) : ifCond.holds .lt (lcmpW a b) = true ∧ ifCond.holds .ge (lcmpW a b) = false ∧ ifCond.holds .gt (lcmpW b a) = true ∧ ifCond.holds .le (lcmpW b a) = false := by
  simp only [if0]
  exact ⟨(tlt ((lw_lt a b).mpr h)).1, (tlt ((lw_lt a b).mpr h)).2.1, (tlt ((lw_gt b a).mpr h)).2.2.1, (tlt ((lw_gt b a).mpr h)).2.2.2⟩
theorem own_Lnl {a b : Int64} (h : ¬ a < b) : ifCond.holds .lt (lcmpW a b) = false ∧ ifCond.holds .ge (lcmpW a b) = true ∧ ifCond.holds .gt (lcmpW b a) = false ∧ ifCond.holds .le (lcmpW b a) = true := by
  simp only [if0]
  have h1 : ¬ lcmpW a b < 0 := fun q => h ((lw_lt a b).mp q)
  have h2 : ¬ 0 < lcmpW b a := fun q => h ((lw_gt b a).mp q)
  exact ⟨(flt h1).1, (flt h1).2.1, (flt h2).2.2.1, (flt h2).2.2.2⟩
theorem own_Leq {a b : Int64} (h : a = b) : ifCond.holds .eq (lcmpW a b) = true ∧ ifCond.holds .ne (lcmpW a b) = false := by
  simp only [if0]
  exact teq ((lw_eq a b).mpr h)
theorem own_Lne {a b : Int64} (h : ¬ a = b) : ifCond.holds .eq (lcmpW a b) = false ∧ ifCond.holds .ne (lcmpW a b) = true := by
  simp only [if0]
  exact feq fun q => h ((lw_eq a b).mp q)
theorem own_StaK {Z : State} {h h' : Heap} {C n d : String} {v : Value} {ws : List Addr} (F : Sta Z h C n d v) (K : Keep h h' ws) (q : ∀ x ∈ ws, ∃ c : Cell, h[x]? = some c ∧ c.vm.isStatics = false) : Sta Z h' C n d v := by
  obtain ⟨cf, i, k, f, st, cell, h1, h2, h3, h4, h5, h6, h7⟩ := F
  refine ⟨cf, i, k, f, st, cell, h1, h2, h3, h4, K.2.1 st cell h5 (fun hm => ?_), h6, h7⟩
  obtain ⟨c, e1, e2⟩ := q _ hm
  rw [h5] at e1
  cases e1
  rw [h6] at e2
  cases e2
theorem own_ExaS {Z : State} {h : Heap} {a : Addr} {C : String} (E : Exa Z h a C) : ∃ c : Cell, h[a]? = some c ∧ c.vm.isStatics = false := by
  obtain ⟨c, k, e1, -, -, e2, -⟩ := E
  exact ⟨c, e1, e2⟩
/-- a boolean as the JVM's int -/
def own_b (b : Bool) : Int32 := if b then 1 else 0
theorem own_b_t : own_b true = 1 := rfl
theorem own_b_f : own_b false = 0 := rfl
theorem own_b0 {b : Bool} : own_b b = 0 ↔ b = false := by cases b <;> decide
theorem own_b_inj {b c : Bool} : own_b b = own_b c ↔ b = c := by cases b <;> cases c <;> decide
theorem own_leafT {b : Bool} (h : b = true) : (some (.int (nar .boolean (1 : Int32))) : Option Value) = some (.int (own_b b)) := by subst h; rfl
theorem own_leafF {b : Bool} (h : b = false) : (some (.int (nar .boolean (0 : Int32))) : Option Value) = some (.int (own_b b)) := by subst h; rfl
theorem own_bt {b : Bool} (h : b = true) : (1 : Int32) = own_b b := by subst h; rfl
theorem own_bf {b : Bool} (h : b = false) : (0 : Int32) = own_b b := by subst h; rfl
theorem own_b_nar (b : Bool) : nar .boolean (own_b b) = own_b b := by cases b <;> rfl
theorem own_d1_0 : decode prog_41_method_4_code 0 = .ok (.aload_n 0, 1) := by decide +kernel
theorem own_d1_1 : decode prog_41_method_4_code 1 = .ok (.getstatic 7, 3) := by decide +kernel
theorem own_d1_4 : decode prog_41_method_4_code 4 = .ok (.if_acmp .eq 10, 3) := by decide +kernel
theorem own_d1_7 : decode prog_41_method_4_code 7 = .ok (.aload_n 1, 1) := by decide +kernel
theorem own_d1_8 : decode prog_41_method_4_code 8 = .ok (.getstatic 7, 3) := by decide +kernel
theorem own_d1_11 : decode prog_41_method_4_code 11 = .ok (.if_acmp .ne 7, 3) := by decide +kernel
theorem own_d1_14 : decode prog_41_method_4_code 14 = .ok (.iconst 1, 1) := by decide +kernel
theorem own_d1_15 : decode prog_41_method_4_code 15 = .ok (.goto 4, 3) := by decide +kernel
theorem own_d1_18 : decode prog_41_method_4_code 18 = .ok (.iconst 0, 1) := by decide +kernel
theorem own_d1_19 : decode prog_41_method_4_code 19 = .ok (.ireturn, 1) := by decide +kernel
theorem own_ef1 (m : MethodId) (x0 : Addr) (x1 : Addr) : entryFrame m #[(.ref x0), (.ref x1)] 2 = mkF m 0 #[.val (.ref x0), .val (.ref x1)] [] := by first | (simp [entryFrame, mkF, argsToLocals, Value.category]; done) | rfl
def own_Q1 (Z : State) (a : Addr) (b : Addr) (st_EXCLUSIVE : Addr) (h0 : Heap) (n0 : Nat) (v : Option Value) (h : Heap) (L : List Loc) : Prop := v = some (.int (own_b (decide (a = st_EXCLUSIVE ∨ b = st_EXCLUSIVE)))) ∧ L = [] ∧ h = h0
theorem own_pn0 : plainName "com/example/nestwarden/nestwarden/node/RowLocks$Mode" = true := by first | (simp [plainName, overriddenIn]; done) | decide +kernel
set_option maxHeartbeats 40000000 in
theorem own_rm1 (l : Launch) (Z : State) (a0 : Array Value) (hw : ∀ d ∈ tables_1, d.before a0 Z = true) (ws : List Jvm.Cond) (a : Addr) (b : Addr) (st_EXCLUSIVE : Addr) (h0 : Heap) (n0 : Nat) (Z0 : n0 ≤ h0.size) (S_EXCLUSIVE : Sta Z h0 "com/example/nestwarden/nestwarden/node/RowLocks$Mode" "EXCLUSIVE" "Lcom/example/nestwarden/nestwarden/node/RowLocks$Mode;" (.ref st_EXCLUSIVE)) :
    MetFree l (⟨"com/example/nestwarden/nestwarden/node/RowLocks$Mode", "conflicts", "(Lcom/example/nestwarden/nestwarden/node/RowLocks$Mode;)Z"⟩ : MethodName) (head1 (Jvm.Cond.code (⟨"com/example/nestwarden/nestwarden/node/RowLocks$Mode", "conflicts", "(Lcom/example/nestwarden/nestwarden/node/RowLocks$Mode;)Z"⟩ : MethodName) prog_41_method_4_code 2 (some .boolean) :: ws) ({ frames := 0, cells := 0, slots := 0, locals := 0 } : Room)) (fun argv U => argv = #[(.ref a), (.ref b)] ∧ Z.Warmed39 U.vm ∧ U.heap = h0) (fun _ _ _ _ _ => True) (fun _ U o U' => ∃ v L, o = .returned v ∧ own_Q1 Z a b st_EXCLUSIVE h0 n0 v U'.heap L ∧ FrameEnd U o U' L ({ frames := 0, cells := 0, slots := 0, locals := 0 } : Room).cells ({ frames := 0, cells := 0, slots := 0, locals := 0 } : Room).slots) := by
  refine MetFree.of_bodySF (plainFor_of_name own_pn0) hisR ?_
  intro p e s m args below meth c s₁ Bd hml0 hP hK
  obtain ⟨rfl, hZ, hh⟩ := hP
  have hx := Bd.exec
  have hby := Bd.bytes
  have hml : c.maxLocals = 2 := hml0
  have hown : s.vm.findClass "com/example/nestwarden/nestwarden/node/RowLocks$Mode" = some m.cls := findClass_of_methodNamed Bd.named
  have hnm := (name_of_methodNamed Bd.named Bd.method).1
  have X0 : Stand p l e ({ frames := 0, cells := 0, slots := 0, locals := 0 } : Room) s m #[(.ref a), (.ref b)] below meth c s₁ [] 0 0 := Stand.of_body Bd
  have e0 : s₁.heap = h0 := by rw [← hh, Bd.state]; rfl
  have N0 := Fr.nil n0
  have pre0 : ∀ t, Steps p.tables e below (s₁.setTop (mkF m 0 #[.val (.ref a), .val (.ref b)] [])) t → Steps p.tables e below (s₁.setTop (entryFrame m #[(.ref a), (.ref b)] 2)) t := fun t k => castTop (own_ef1 m a b) k
  have S1 : ∀ t, Steps p.tables e below (s₁.setTop (mkF m 1 #[.val (.ref a), .val (.ref b)] [(.ref a)])) t → Steps p.tables e below (s₁.setTop (entryFrame m #[(.ref a), (.ref b)] 2)) t := fun t kt => by
    refine pre0 t ?_
    show Steps p.tables e below (s₁.setTop (mkF m 0 #[.val (.ref a), .val (.ref b)] [])) t
    refine XS.aloadN X0.here hx rfl (hb hby own_d1_0) rfl rfl ?_
    exact kt
  obtain ⟨T2, X2, e2, st2⟩ := getS2 X0 hx hZ hown (host := "") (Or.inl (hw _ (List.mem_of_getElem? (i := 10) rfl))) Via.refl e0 S_EXCLUSIVE (g := (mkF m 1 #[.val (.ref a), .val (.ref b)] [(.ref a)])) rfl (hb hby own_d1_1)
  have S3 : ∀ t, Steps p.tables e below (T2.setTop (mkF m 4 #[.val (.ref a), .val (.ref b)] [(.ref st_EXCLUSIVE), (.ref a)])) t → Steps p.tables e below (s₁.setTop (entryFrame m #[(.ref a), (.ref b)] 2)) t := fun t kt => S1 t (st2 _ kt)
  by_cases hc4 : a = st_EXCLUSIVE
  · skip
    have S4 : ∀ t, Steps p.tables e below (T2.setTop (mkF m 19 #[.val (.ref a), .val (.ref b)] [(.int (1 : Int32))])) t → Steps p.tables e below (s₁.setTop (entryFrame m #[(.ref a), (.ref b)] 2)) t := fun t kt => by
      refine S3 t ?_
      show Steps p.tables e below (T2.setTop (mkF m 4 #[.val (.ref a), .val (.ref b)] [(.ref st_EXCLUSIVE), (.ref a)])) t
      refine Jvm.RoadKit.acmp (g := (mkF m 4 #[.val (.ref a), .val (.ref b)] [(.ref st_EXCLUSIVE), (.ref a)])) X2 hx rfl rfl rfl (pc0 := 4) (pc' := 14) (same := true) rfl (hb hby own_d1_4) rfl (decide_eq_true (congrArg Value.ref hc4)) (by decide) (by decide) ?_
      show Steps p.tables e below (T2.setTop (mkF m 14 #[.val (.ref a), .val (.ref b)] [])) t
      refine XS.iconst X2.here hx rfl (hb hby own_d1_14) ?_
      show Steps p.tables e below (T2.setTop (mkF m 15 #[.val (.ref a), .val (.ref b)] [(.int (1 : Int32))])) t
      refine XS.goto X2.here hx rfl (pc0 := 15) (pc' := 19) rfl (hb hby own_d1_15) (by decide) (by decide) ?_
      exact kt
    obtain ⟨fs, hr, hrun, hended, hW, hsame⟩ := X2.leave (v := some (.int (nar .boolean (1 : Int32)))) (fun h => by rw [Bd.returns] at h; cases h)
    refine ⟨_, _, S4 _ ?_, hrun, hended, _, _, rfl, ?_, ⟨_, rfl⟩, hW, hsame.mono (by decide) (by decide)⟩
    · show Steps p.tables e below (T2.setTop (mkF m 19 #[.val (.ref a), .val (.ref b)] [(.int (1 : Int32))])) _
      exact retN X2 hx (t := .boolean) Bd.returns (by simp) (hb hby own_d1_19) hr
    · show own_Q1 Z a b st_EXCLUSIVE h0 n0 _ T2.heap _
      rw [e2]
      exact ⟨own_leafT (by simp only [decide_true, decide_true, decide_false, not_true_eq_false, not_false_eq_true, and_true, true_and, and_false, false_and, and_self, or_true, true_or, or_false, false_or, or_self, if_true, if_false, Bool.not_true, Bool.not_false, Bool.and_true, Bool.true_and, Bool.and_false, Bool.false_and, *]), rfl, rfl⟩
  · skip
    have S5 : ∀ t, Steps p.tables e below (T2.setTop (mkF m 8 #[.val (.ref a), .val (.ref b)] [(.ref b)])) t → Steps p.tables e below (s₁.setTop (entryFrame m #[(.ref a), (.ref b)] 2)) t := fun t kt => by
      refine S3 t ?_
      show Steps p.tables e below (T2.setTop (mkF m 4 #[.val (.ref a), .val (.ref b)] [(.ref st_EXCLUSIVE), (.ref a)])) t
      refine Jvm.RoadKit.acmp (g := (mkF m 4 #[.val (.ref a), .val (.ref b)] [(.ref st_EXCLUSIVE), (.ref a)])) X2 hx rfl rfl rfl (pc0 := 4) (pc' := 7) (same := false) rfl (hb hby own_d1_4) rfl (decide_eq_false fun q => hc4 (Value.ref.inj q)) (by decide) (by decide) ?_
      show Steps p.tables e below (T2.setTop (mkF m 7 #[.val (.ref a), .val (.ref b)] [])) t
      refine XS.aloadN X2.here hx rfl (hb hby own_d1_7) rfl rfl ?_
      exact kt
    obtain ⟨T6, X6, e6, st6⟩ := getS2 X2 hx hZ hown (host := "") (Or.inl (hw _ (List.mem_of_getElem? (i := 10) rfl))) Via.refl e2 S_EXCLUSIVE (g := (mkF m 8 #[.val (.ref a), .val (.ref b)] [(.ref b)])) rfl (hb hby own_d1_8)
    have S7 : ∀ t, Steps p.tables e below (T6.setTop (mkF m 11 #[.val (.ref a), .val (.ref b)] [(.ref st_EXCLUSIVE), (.ref b)])) t → Steps p.tables e below (s₁.setTop (entryFrame m #[(.ref a), (.ref b)] 2)) t := fun t kt => S5 t (st6 _ kt)
    by_cases hc11 : b = st_EXCLUSIVE
    · skip
      have S8 : ∀ t, Steps p.tables e below (T6.setTop (mkF m 19 #[.val (.ref a), .val (.ref b)] [(.int (1 : Int32))])) t → Steps p.tables e below (s₁.setTop (entryFrame m #[(.ref a), (.ref b)] 2)) t := fun t kt => by
        refine S7 t ?_
        show Steps p.tables e below (T6.setTop (mkF m 11 #[.val (.ref a), .val (.ref b)] [(.ref st_EXCLUSIVE), (.ref b)])) t
        refine Jvm.RoadKit.acmp (g := (mkF m 11 #[.val (.ref a), .val (.ref b)] [(.ref st_EXCLUSIVE), (.ref b)])) X6 hx rfl rfl rfl (pc0 := 11) (pc' := 14) (same := true) rfl (hb hby own_d1_11) rfl (decide_eq_true (congrArg Value.ref hc11)) (by decide) (by decide) ?_
        show Steps p.tables e below (T6.setTop (mkF m 14 #[.val (.ref a), .val (.ref b)] [])) t
        refine XS.iconst X6.here hx rfl (hb hby own_d1_14) ?_
        show Steps p.tables e below (T6.setTop (mkF m 15 #[.val (.ref a), .val (.ref b)] [(.int (1 : Int32))])) t
        refine XS.goto X6.here hx rfl (pc0 := 15) (pc' := 19) rfl (hb hby own_d1_15) (by decide) (by decide) ?_
        exact kt
      obtain ⟨fs, hr, hrun, hended, hW, hsame⟩ := X6.leave (v := some (.int (nar .boolean (1 : Int32)))) (fun h => by rw [Bd.returns] at h; cases h)
      refine ⟨_, _, S8 _ ?_, hrun, hended, _, _, rfl, ?_, ⟨_, rfl⟩, hW, hsame.mono (by decide) (by decide)⟩
      · show Steps p.tables e below (T6.setTop (mkF m 19 #[.val (.ref a), .val (.ref b)] [(.int (1 : Int32))])) _
        exact retN X6 hx (t := .boolean) Bd.returns (by simp) (hb hby own_d1_19) hr
      · show own_Q1 Z a b st_EXCLUSIVE h0 n0 _ T6.heap _
        rw [e6]
        exact ⟨own_leafT (by simp only [decide_true, decide_true, decide_false, not_true_eq_false, not_false_eq_true, and_true, true_and, and_false, false_and, and_self, or_true, true_or, or_false, false_or, or_self, if_true, if_false, Bool.not_true, Bool.not_false, Bool.and_true, Bool.true_and, Bool.and_false, Bool.false_and, *]), rfl, rfl⟩
    · skip
      have S9 : ∀ t, Steps p.tables e below (T6.setTop (mkF m 19 #[.val (.ref a), .val (.ref b)] [(.int (0 : Int32))])) t → Steps p.tables e below (s₁.setTop (entryFrame m #[(.ref a), (.ref b)] 2)) t := fun t kt => by
        refine S7 t ?_
        show Steps p.tables e below (T6.setTop (mkF m 11 #[.val (.ref a), .val (.ref b)] [(.ref st_EXCLUSIVE), (.ref b)])) t
        refine Jvm.RoadKit.acmp (g := (mkF m 11 #[.val (.ref a), .val (.ref b)] [(.ref st_EXCLUSIVE), (.ref b)])) X6 hx rfl rfl rfl (pc0 := 11) (pc' := 18) (same := false) rfl (hb hby own_d1_11) rfl (decide_eq_false fun q => hc11 (Value.ref.inj q)) (by decide) (by decide) ?_
        show Steps p.tables e below (T6.setTop (mkF m 18 #[.val (.ref a), .val (.ref b)] [])) t
        refine XS.iconst X6.here hx rfl (hb hby own_d1_18) ?_
        exact kt
      obtain ⟨fs, hr, hrun, hended, hW, hsame⟩ := X6.leave (v := some (.int (nar .boolean (0 : Int32)))) (fun h => by rw [Bd.returns] at h; cases h)
      refine ⟨_, _, S9 _ ?_, hrun, hended, _, _, rfl, ?_, ⟨_, rfl⟩, hW, hsame.mono (by decide) (by decide)⟩
      · show Steps p.tables e below (T6.setTop (mkF m 19 #[.val (.ref a), .val (.ref b)] [(.int (0 : Int32))])) _
        exact retN X6 hx (t := .boolean) Bd.returns (by simp) (hb hby own_d1_19) hr
      · show own_Q1 Z a b st_EXCLUSIVE h0 n0 _ T6.heap _
        rw [e6]
        exact ⟨own_leafF (by simp only [decide_true, decide_true, decide_false, not_true_eq_false, not_false_eq_true, and_true, true_and, and_false, false_and, and_self, or_true, true_or, or_false, false_or, or_self, if_true, if_false, Bool.not_true, Bool.not_false, Bool.and_true, Bool.true_and, Bool.and_false, Bool.false_and, *]), rfl, rfl⟩
theorem own_pd0 : parseMethodDescriptor "(Lcom/example/nestwarden/nestwarden/node/RowLocks$Mode;)Z" = some ⟨[(.object "com/example/nestwarden/nestwarden/node/RowLocks$Mode")], some .boolean⟩ := by decide +kernel
theorem own_ef0 (m : MethodId) (x0 : Int32) (x1 : Int32) : entryFrame m #[(.int x0), (.int x1)] maxLocals = mkF m 0 #[.val (.int x0), .val (.int x1), .unset, .unset, .unset, .unset, .unset, .unset, .unset] [] := by first | (simp [entryFrame, mkF, argsToLocals, Value.category, maxLocals]; done) | rfl
def own_Q0 (Z : State) (xx : Int32) (yy : Int32) (st_SHARED : Addr) (st_EXCLUSIVE : Addr) (h0 : Heap) (n0 : Nat) (v : Option Value) (h : Heap) (L : List Loc) : Prop := v = some (.int (1 : Int32)) ∧ Fr n0 L
theorem own_pn1 : plainName "com/example/nestwarden/nestwarden/node/ModeConflictsPinLaw" = true := by first | (simp [plainName, overriddenIn]; done) | decide +kernel
set_option maxHeartbeats 40000000 in
theorem own_rm0 (l : Launch) (Z : State) (a0 : Array Value) (hw : ∀ d ∈ tables_1, d.before a0 Z = true) (ws : List Jvm.Cond) (xx : Int32) (yy : Int32) (st_SHARED : Addr) (st_EXCLUSIVE : Addr) (h0 : Heap) (n0 : Nat) (Z0 : n0 ≤ h0.size) (S_SHARED : Sta Z h0 "com/example/nestwarden/nestwarden/node/RowLocks$Mode" "SHARED" "Lcom/example/nestwarden/nestwarden/node/RowLocks$Mode;" (.ref st_SHARED)) (S_EXCLUSIVE : Sta Z h0 "com/example/nestwarden/nestwarden/node/RowLocks$Mode" "EXCLUSIVE" "Lcom/example/nestwarden/nestwarden/node/RowLocks$Mode;" (.ref st_EXCLUSIVE)) (E_SHARED : Exa Z h0 st_SHARED "com/example/nestwarden/nestwarden/node/RowLocks$Mode") (E_EXCLUSIVE : Exa Z h0 st_EXCLUSIVE "com/example/nestwarden/nestwarden/node/RowLocks$Mode") (hne : ¬ st_SHARED = st_EXCLUSIVE) :
    MetFree l x (head1 (Jvm.Cond.code x code maxLocals ret :: ws) room_1) (fun argv U => argv = #[(.int xx), (.int yy)] ∧ Z.Warmed39 U.vm ∧ U.heap = h0) (fun _ _ _ _ _ => True) (fun _ U o U' => ∃ v L, o = .returned v ∧ own_Q0 Z xx yy st_SHARED st_EXCLUSIVE h0 n0 v U'.heap L ∧ FrameEnd U o U' L room_1.cells room_1.slots) := by
  refine MetFree.of_bodySF (plainFor_of_name own_pn1) hisR ?_
  intro p e s m args below meth c s₁ Bd hml0 hP hK
  obtain ⟨rfl, hZ, hh⟩ := hP
  have hx := Bd.exec
  have hby := Bd.bytes
  have hml : c.maxLocals = 9 := hml0
  have hown : s.vm.findClass "com/example/nestwarden/nestwarden/node/ModeConflictsPinLaw" = some m.cls := findClass_of_methodNamed Bd.named
  have hnm := (name_of_methodNamed Bd.named Bd.method).1
  have X0 : Stand p l e room_1 s m #[(.int xx), (.int yy)] below meth c s₁ [] 0 0 := Stand.of_body Bd
  have e0 : s₁.heap = h0 := by rw [← hh, Bd.state]; rfl
  have N0 := Fr.nil n0
  have pre0 : ∀ t, Steps p.tables e below (s₁.setTop (mkF m 0 #[.val (.int xx), .val (.int yy), .unset, .unset, .unset, .unset, .unset, .unset, .unset] [])) t → Steps p.tables e below (s₁.setTop (entryFrame m #[(.int xx), (.int yy)] maxLocals)) t := fun t k => castTop (own_ef0 m xx yy) k
  have S1 : ∀ t, Steps p.tables e below (s₁.setTop (mkF m 3 #[.val (.int xx), .val (.int yy), .unset, .unset, .unset, .unset, .unset, .unset, .unset] [(.int (xx &&& (1 : Int32)))])) t → Steps p.tables e below (s₁.setTop (entryFrame m #[(.int xx), (.int yy)] maxLocals)) t := fun t kt => by
    refine pre0 t ?_
    show Steps p.tables e below (s₁.setTop (mkF m 0 #[.val (.int xx), .val (.int yy), .unset, .unset, .unset, .unset, .unset, .unset, .unset] [])) t
    refine XS.iloadN X0.here hx rfl (hb hby at_0) rfl ?_
    show Steps p.tables e below (s₁.setTop (mkF m 1 #[.val (.int xx), .val (.int yy), .unset, .unset, .unset, .unset, .unset, .unset, .unset] [(.int xx)])) t
    refine XS.iconst X0.here hx rfl (hb hby at_1) ?_
    show Steps p.tables e below (s₁.setTop (mkF m 2 #[.val (.int xx), .val (.int yy), .unset, .unset, .unset, .unset, .unset, .unset, .unset] [(.int (1 : Int32)), (.int xx)])) t
    refine XS.iand X0.here hx rfl (hb hby at_2) rfl ?_
    exact kt
  by_cases hc3 : (xx &&& (1 : Int32)) = (0 : Int32)
  · skip
    have S2 : ∀ t, Steps p.tables e below (s₁.setTop (mkF m 15 #[.val (.int xx), .val (.int yy), .val (.int (0 : Int32)), .unset, .unset, .unset, .unset, .unset, .unset] [(.int (yy &&& (1 : Int32)))])) t → Steps p.tables e below (s₁.setTop (entryFrame m #[(.int xx), (.int yy)] maxLocals)) t := fun t kt => by
      refine S1 t ?_
      show Steps p.tables e below (s₁.setTop (mkF m 3 #[.val (.int xx), .val (.int yy), .unset, .unset, .unset, .unset, .unset, .unset, .unset] [(.int (xx &&& (1 : Int32)))])) t
      refine XS.ifYes X0.here hx rfl (pc0 := 3) (pc' := 10) rfl (hb hby at_3) rfl ((if0 _ _).trans (teq hc3).1) (by decide) (by decide) ?_
      show Steps p.tables e below (s₁.setTop (mkF m 10 #[.val (.int xx), .val (.int yy), .unset, .unset, .unset, .unset, .unset, .unset, .unset] [])) t
      refine XS.iconst X0.here hx rfl (hb hby at_10) ?_
      show Steps p.tables e below (s₁.setTop (mkF m 11 #[.val (.int xx), .val (.int yy), .unset, .unset, .unset, .unset, .unset, .unset, .unset] [(.int (0 : Int32))])) t
      refine XS.istoreN X0.here hx rfl (hb hby at_11) rfl (l' := #[.val (.int xx), .val (.int yy), .val (.int (0 : Int32)), .unset, .unset, .unset, .unset, .unset, .unset]) rfl ?_
      show Steps p.tables e below (s₁.setTop (mkF m 12 #[.val (.int xx), .val (.int yy), .val (.int (0 : Int32)), .unset, .unset, .unset, .unset, .unset, .unset] [])) t
      refine XS.iloadN X0.here hx rfl (hb hby at_12) rfl ?_
      show Steps p.tables e below (s₁.setTop (mkF m 13 #[.val (.int xx), .val (.int yy), .val (.int (0 : Int32)), .unset, .unset, .unset, .unset, .unset, .unset] [(.int yy)])) t
      refine XS.iconst X0.here hx rfl (hb hby at_13) ?_
      show Steps p.tables e below (s₁.setTop (mkF m 14 #[.val (.int xx), .val (.int yy), .val (.int (0 : Int32)), .unset, .unset, .unset, .unset, .unset, .unset] [(.int (1 : Int32)), (.int yy)])) t
      refine XS.iand X0.here hx rfl (hb hby at_14) rfl ?_
      exact kt
    by_cases hc15 : (yy &&& (1 : Int32)) = (0 : Int32)
    · skip
      have S3 : ∀ t, Steps p.tables e below (s₁.setTop (mkF m 25 #[.val (.int xx), .val (.int yy), .val (.int (0 : Int32)), .val (.int (0 : Int32)), .unset, .unset, .unset, .unset, .unset] [(.int (0 : Int32))])) t → Steps p.tables e below (s₁.setTop (entryFrame m #[(.int xx), (.int yy)] maxLocals)) t := fun t kt => by
        refine S2 t ?_
        show Steps p.tables e below (s₁.setTop (mkF m 15 #[.val (.int xx), .val (.int yy), .val (.int (0 : Int32)), .unset, .unset, .unset, .unset, .unset, .unset] [(.int (yy &&& (1 : Int32)))])) t
        refine XS.ifYes X0.here hx rfl (pc0 := 15) (pc' := 22) rfl (hb hby at_15) rfl ((if0 _ _).trans (teq hc15).1) (by decide) (by decide) ?_
        show Steps p.tables e below (s₁.setTop (mkF m 22 #[.val (.int xx), .val (.int yy), .val (.int (0 : Int32)), .unset, .unset, .unset, .unset, .unset, .unset] [])) t
        refine XS.iconst X0.here hx rfl (hb hby at_22) ?_
        show Steps p.tables e below (s₁.setTop (mkF m 23 #[.val (.int xx), .val (.int yy), .val (.int (0 : Int32)), .unset, .unset, .unset, .unset, .unset, .unset] [(.int (0 : Int32))])) t
        refine XS.istoreN X0.here hx rfl (hb hby at_23) rfl (l' := #[.val (.int xx), .val (.int yy), .val (.int (0 : Int32)), .val (.int (0 : Int32)), .unset, .unset, .unset, .unset, .unset]) rfl ?_
        show Steps p.tables e below (s₁.setTop (mkF m 24 #[.val (.int xx), .val (.int yy), .val (.int (0 : Int32)), .val (.int (0 : Int32)), .unset, .unset, .unset, .unset, .unset] [])) t
        refine XS.iloadN X0.here hx rfl (hb hby at_24) rfl ?_
        exact kt
      have hc25_4 : (0 : Int32) = (0 : Int32) := by decide
      have S5 : ∀ t, Steps p.tables e below (s₁.setTop (mkF m 34 #[.val (.int xx), .val (.int yy), .val (.int (0 : Int32)), .val (.int (0 : Int32)), .unset, .unset, .unset, .unset, .unset] [])) t → Steps p.tables e below (s₁.setTop (entryFrame m #[(.int xx), (.int yy)] maxLocals)) t := fun t kt => by
        refine S3 t ?_
        show Steps p.tables e below (s₁.setTop (mkF m 25 #[.val (.int xx), .val (.int yy), .val (.int (0 : Int32)), .val (.int (0 : Int32)), .unset, .unset, .unset, .unset, .unset] [(.int (0 : Int32))])) t
        refine XS.ifYes X0.here hx rfl (pc0 := 25) (pc' := 34) rfl (hb hby at_25) rfl ((if0 _ _).trans (teq hc25_4).1) (by decide) (by decide) ?_
        exact kt
      obtain ⟨T6, X6, e6, st6⟩ := getS2 X0 hx hZ hown (host := "") (Or.inl (hw _ (List.mem_of_getElem? (i := 0) rfl))) Via.refl e0 S_SHARED (g := (mkF m 34 #[.val (.int xx), .val (.int yy), .val (.int (0 : Int32)), .val (.int (0 : Int32)), .unset, .unset, .unset, .unset, .unset] [])) rfl (hb hby at_34)
      have S7 : ∀ t, Steps p.tables e below (T6.setTop (mkF m 37 #[.val (.int xx), .val (.int yy), .val (.int (0 : Int32)), .val (.int (0 : Int32)), .unset, .unset, .unset, .unset, .unset] [(.ref st_SHARED)])) t → Steps p.tables e below (s₁.setTop (entryFrame m #[(.int xx), (.int yy)] maxLocals)) t := fun t kt => S5 t (st6 _ kt)
      have S8 : ∀ t, Steps p.tables e below (T6.setTop (mkF m 40 #[.val (.int xx), .val (.int yy), .val (.int (0 : Int32)), .val (.int (0 : Int32)), .val (.ref st_SHARED), .unset, .unset, .unset, .unset] [(.int (0 : Int32))])) t → Steps p.tables e below (s₁.setTop (entryFrame m #[(.int xx), (.int yy)] maxLocals)) t := fun t kt => by
        refine S7 t ?_
        show Steps p.tables e below (T6.setTop (mkF m 37 #[.val (.int xx), .val (.int yy), .val (.int (0 : Int32)), .val (.int (0 : Int32)), .unset, .unset, .unset, .unset, .unset] [(.ref st_SHARED)])) t
        refine XS.astore X6.here hx rfl (hb hby at_37) rfl rfl (l' := #[.val (.int xx), .val (.int yy), .val (.int (0 : Int32)), .val (.int (0 : Int32)), .val (.ref st_SHARED), .unset, .unset, .unset, .unset]) rfl ?_
        show Steps p.tables e below (T6.setTop (mkF m 39 #[.val (.int xx), .val (.int yy), .val (.int (0 : Int32)), .val (.int (0 : Int32)), .val (.ref st_SHARED), .unset, .unset, .unset, .unset] [])) t
        refine XS.iloadN X6.here hx rfl (hb hby at_39) rfl ?_
        exact kt
      have hc40_9 : (0 : Int32) = (0 : Int32) := by decide
      have S10 : ∀ t, Steps p.tables e below (T6.setTop (mkF m 49 #[.val (.int xx), .val (.int yy), .val (.int (0 : Int32)), .val (.int (0 : Int32)), .val (.ref st_SHARED), .unset, .unset, .unset, .unset] [])) t → Steps p.tables e below (s₁.setTop (entryFrame m #[(.int xx), (.int yy)] maxLocals)) t := fun t kt => by
        refine S8 t ?_
        show Steps p.tables e below (T6.setTop (mkF m 40 #[.val (.int xx), .val (.int yy), .val (.int (0 : Int32)), .val (.int (0 : Int32)), .val (.ref st_SHARED), .unset, .unset, .unset, .unset] [(.int (0 : Int32))])) t
        refine XS.ifYes X6.here hx rfl (pc0 := 40) (pc' := 49) rfl (hb hby at_40) rfl ((if0 _ _).trans (teq hc40_9).1) (by decide) (by decide) ?_
        exact kt
      obtain ⟨T11, X11, e11, st11⟩ := getS2 X6 hx hZ hown (host := "") (Or.inl (hw _ (List.mem_of_getElem? (i := 0) rfl))) Via.refl e6 S_SHARED (g := (mkF m 49 #[.val (.int xx), .val (.int yy), .val (.int (0 : Int32)), .val (.int (0 : Int32)), .val (.ref st_SHARED), .unset, .unset, .unset, .unset] [])) rfl (hb hby at_49)
      have S12 : ∀ t, Steps p.tables e below (T11.setTop (mkF m 52 #[.val (.int xx), .val (.int yy), .val (.int (0 : Int32)), .val (.int (0 : Int32)), .val (.ref st_SHARED), .unset, .unset, .unset, .unset] [(.ref st_SHARED)])) t → Steps p.tables e below (s₁.setTop (entryFrame m #[(.int xx), (.int yy)] maxLocals)) t := fun t kt => S10 t (st11 _ kt)
      have S13 : ∀ t, Steps p.tables e below (T11.setTop (mkF m 55 #[.val (.int xx), .val (.int yy), .val (.int (0 : Int32)), .val (.int (0 : Int32)), .val (.ref st_SHARED), .val (.ref st_SHARED), .unset, .unset, .unset] [(.int (0 : Int32))])) t → Steps p.tables e below (s₁.setTop (entryFrame m #[(.int xx), (.int yy)] maxLocals)) t := fun t kt => by
        refine S12 t ?_
        show Steps p.tables e below (T11.setTop (mkF m 52 #[.val (.int xx), .val (.int yy), .val (.int (0 : Int32)), .val (.int (0 : Int32)), .val (.ref st_SHARED), .unset, .unset, .unset, .unset] [(.ref st_SHARED)])) t
        refine XS.astore X11.here hx rfl (hb hby at_52) rfl rfl (l' := #[.val (.int xx), .val (.int yy), .val (.int (0 : Int32)), .val (.int (0 : Int32)), .val (.ref st_SHARED), .val (.ref st_SHARED), .unset, .unset, .unset]) rfl ?_
        show Steps p.tables e below (T11.setTop (mkF m 54 #[.val (.int xx), .val (.int yy), .val (.int (0 : Int32)), .val (.int (0 : Int32)), .val (.ref st_SHARED), .val (.ref st_SHARED), .unset, .unset, .unset] [])) t
        refine XS.iloadN X11.here hx rfl (hb hby at_54) rfl ?_
        exact kt
      have hc55_14 : (0 : Int32) = (0 : Int32) := by decide
      have S15 : ∀ t, Steps p.tables e below (T11.setTop (mkF m 59 #[.val (.int xx), .val (.int yy), .val (.int (0 : Int32)), .val (.int (0 : Int32)), .val (.ref st_SHARED), .val (.ref st_SHARED), .unset, .unset, .unset] [(.int (0 : Int32))])) t → Steps p.tables e below (s₁.setTop (entryFrame m #[(.int xx), (.int yy)] maxLocals)) t := fun t kt => by
        refine S13 t ?_
        show Steps p.tables e below (T11.setTop (mkF m 55 #[.val (.int xx), .val (.int yy), .val (.int (0 : Int32)), .val (.int (0 : Int32)), .val (.ref st_SHARED), .val (.ref st_SHARED), .unset, .unset, .unset] [(.int (0 : Int32))])) t
        refine XS.ifNo X11.here hx rfl (hb hby at_55) rfl ((if0 _ _).trans (teq hc55_14).2) ?_
        show Steps p.tables e below (T11.setTop (mkF m 58 #[.val (.int xx), .val (.int yy), .val (.int (0 : Int32)), .val (.int (0 : Int32)), .val (.ref st_SHARED), .val (.ref st_SHARED), .unset, .unset, .unset] [])) t
        refine XS.iloadN X11.here hx rfl (hb hby at_58) rfl ?_
        exact kt
      have hc59_16 : (0 : Int32) = (0 : Int32) := by decide
      have S18 : ∀ t, Steps p.tables e below (T11.setTop (mkF m 75 #[.val (.int xx), .val (.int yy), .val (.int (0 : Int32)), .val (.int (0 : Int32)), .val (.ref st_SHARED), .val (.ref st_SHARED), .val (.int (0 : Int32)), .unset, .unset] [(.ref st_SHARED), (.ref st_SHARED)])) t → Steps p.tables e below (s₁.setTop (entryFrame m #[(.int xx), (.int yy)] maxLocals)) t := fun t kt => by
        refine S15 t ?_
        show Steps p.tables e below (T11.setTop (mkF m 59 #[.val (.int xx), .val (.int yy), .val (.int (0 : Int32)), .val (.int (0 : Int32)), .val (.ref st_SHARED), .val (.ref st_SHARED), .unset, .unset, .unset] [(.int (0 : Int32))])) t
        refine XS.ifNo X11.here hx rfl (hb hby at_59) rfl ((if0 _ _).trans (teq hc59_16).2) ?_
        show Steps p.tables e below (T11.setTop (mkF m 62 #[.val (.int xx), .val (.int yy), .val (.int (0 : Int32)), .val (.int (0 : Int32)), .val (.ref st_SHARED), .val (.ref st_SHARED), .unset, .unset, .unset] [])) t
        refine XS.iconst X11.here hx rfl (hb hby at_62) ?_
        show Steps p.tables e below (T11.setTop (mkF m 63 #[.val (.int xx), .val (.int yy), .val (.int (0 : Int32)), .val (.int (0 : Int32)), .val (.ref st_SHARED), .val (.ref st_SHARED), .unset, .unset, .unset] [(.int (0 : Int32))])) t
        refine XS.istore X11.here hx rfl (hb hby at_63) rfl (l' := #[.val (.int xx), .val (.int yy), .val (.int (0 : Int32)), .val (.int (0 : Int32)), .val (.ref st_SHARED), .val (.ref st_SHARED), .val (.int (0 : Int32)), .unset, .unset]) rfl ?_
        show Steps p.tables e below (T11.setTop (mkF m 65 #[.val (.int xx), .val (.int yy), .val (.int (0 : Int32)), .val (.int (0 : Int32)), .val (.ref st_SHARED), .val (.ref st_SHARED), .val (.int (0 : Int32)), .unset, .unset] [])) t
        refine XS.goto X11.here hx rfl (pc0 := 65) (pc' := 71) rfl (hb hby at_65) (by decide) (by decide) ?_
        show Steps p.tables e below (T11.setTop (mkF m 71 #[.val (.int xx), .val (.int yy), .val (.int (0 : Int32)), .val (.int (0 : Int32)), .val (.ref st_SHARED), .val (.ref st_SHARED), .val (.int (0 : Int32)), .unset, .unset] [])) t
        refine XS.aload X11.here hx rfl (hb hby at_71) rfl rfl ?_
        show Steps p.tables e below (T11.setTop (mkF m 73 #[.val (.int xx), .val (.int yy), .val (.int (0 : Int32)), .val (.int (0 : Int32)), .val (.ref st_SHARED), .val (.ref st_SHARED), .val (.int (0 : Int32)), .unset, .unset] [(.ref st_SHARED)])) t
        refine XS.aload X11.here hx rfl (hb hby at_73) rfl rfl ?_
        exact kt
      obtain ⟨cq19, kq19, q19a, q19b, q19c⟩ := isOf hZ e11 E_SHARED
      obtain ⟨_, _, ⟨T19, L19, k19, n19⟩, -, X19, ⟨Lc19, hQ19, l19, y19, z19⟩, st19⟩ := X11.virtualBack hx (y := (⟨"com/example/nestwarden/nestwarden/node/RowLocks$Mode", "conflicts", "(Lcom/example/nestwarden/nestwarden/node/RowLocks$Mode;)Z"⟩ : MethodName)) (z := (⟨"com/example/nestwarden/nestwarden/node/RowLocks$Mode", "conflicts", "(Lcom/example/nestwarden/nestwarden/node/RowLocks$Mode;)Z"⟩ : MethodName)) hown (mvT hZ (hw _ (List.mem_of_getElem? (i := 5) rfl))) (mvT hZ (hw _ (List.mem_of_getElem? (i := 6) rfl))) (notFace_of_selects (args := #[]) (mvT hZ (hw _ (List.mem_of_getElem? (i := 8) rfl)))) (mvT hZ (hw _ (List.mem_of_getElem? (i := 8) rfl))) (mvT hZ (hw _ (List.mem_of_getElem? (i := 7) rfl))) (by decide) (backOf (W := 0) (own_rm1 l Z a0 hw [] (st_SHARED) (st_SHARED) (st_EXCLUSIVE) h0 n0 Z0 S_EXCLUSIVE) hZ (hw _ (List.mem_of_getElem? (i := 9) rfl)) (hw _ (List.mem_of_getElem? (i := 1) rfl)) (by decide) (by decide)) q19a q19c (g := (mkF m 75 #[.val (.int xx), .val (.int yy), .val (.int (0 : Int32)), .val (.int (0 : Int32)), .val (.ref st_SHARED), .val (.ref st_SHARED), .val (.int (0 : Int32)), .unset, .unset] [(.ref st_SHARED), (.ref st_SHARED)])) rfl (by rw [hml]; rfl) (Steps.refl _) (argsL := [(.ref st_SHARED)]) (rest := []) (lenOf own_pd0 rfl) rfl (by show 2 * 0 + _ ≤ _; exact Nat.le_of_eq rfl) (hb hby at_75) (fun _ _ => ⟨rfl, e11, (by decide : 0 + 0 ≤ _), (by decide : 0 + 0 ≤ _)⟩)
      dsimp only [Pt.U, Pt.locs, Pt.cells, Pt.slots] at X19 l19 y19 z19 st19 hQ19
      subst l19 y19 z19
      obtain ⟨rfl, rfl, eq17⟩ := hQ19
      try rw [List.append_nil] at X19
      have S20 : ∀ t, Steps p.tables e below (T19.setTop (mkF m 78 #[.val (.int xx), .val (.int yy), .val (.int (0 : Int32)), .val (.int (0 : Int32)), .val (.ref st_SHARED), .val (.ref st_SHARED), .val (.int (0 : Int32)), .unset, .unset] [(.int (own_b (decide (st_SHARED = st_EXCLUSIVE ∨ st_SHARED = st_EXCLUSIVE))))])) t → Steps p.tables e below (s₁.setTop (entryFrame m #[(.int xx), (.int yy)] maxLocals)) t := fun t kt => S18 t (st19.trans kt)
      have S22 : ∀ t, Steps p.tables e below (T19.setTop (mkF m 84 #[.val (.int xx), .val (.int yy), .val (.int (0 : Int32)), .val (.int (0 : Int32)), .val (.ref st_SHARED), .val (.ref st_SHARED), .val (.int (0 : Int32)), .val (.int (own_b (decide (st_SHARED = st_EXCLUSIVE ∨ st_SHARED = st_EXCLUSIVE)))), .unset] [(.ref st_SHARED), (.ref st_SHARED)])) t → Steps p.tables e below (s₁.setTop (entryFrame m #[(.int xx), (.int yy)] maxLocals)) t := fun t kt => by
        refine S20 t ?_
        show Steps p.tables e below (T19.setTop (mkF m 78 #[.val (.int xx), .val (.int yy), .val (.int (0 : Int32)), .val (.int (0 : Int32)), .val (.ref st_SHARED), .val (.ref st_SHARED), .val (.int (0 : Int32)), .unset, .unset] [(.int (own_b (decide (st_SHARED = st_EXCLUSIVE ∨ st_SHARED = st_EXCLUSIVE))))])) t
        refine XS.istore X19.here hx rfl (hb hby at_78) rfl (l' := #[.val (.int xx), .val (.int yy), .val (.int (0 : Int32)), .val (.int (0 : Int32)), .val (.ref st_SHARED), .val (.ref st_SHARED), .val (.int (0 : Int32)), .val (.int (own_b (decide (st_SHARED = st_EXCLUSIVE ∨ st_SHARED = st_EXCLUSIVE)))), .unset]) rfl ?_
        show Steps p.tables e below (T19.setTop (mkF m 80 #[.val (.int xx), .val (.int yy), .val (.int (0 : Int32)), .val (.int (0 : Int32)), .val (.ref st_SHARED), .val (.ref st_SHARED), .val (.int (0 : Int32)), .val (.int (own_b (decide (st_SHARED = st_EXCLUSIVE ∨ st_SHARED = st_EXCLUSIVE)))), .unset] [])) t
        refine XS.aload X19.here hx rfl (hb hby at_80) rfl rfl ?_
        show Steps p.tables e below (T19.setTop (mkF m 82 #[.val (.int xx), .val (.int yy), .val (.int (0 : Int32)), .val (.int (0 : Int32)), .val (.ref st_SHARED), .val (.ref st_SHARED), .val (.int (0 : Int32)), .val (.int (own_b (decide (st_SHARED = st_EXCLUSIVE ∨ st_SHARED = st_EXCLUSIVE)))), .unset] [(.ref st_SHARED)])) t
        refine XS.aload X19.here hx rfl (hb hby at_82) rfl rfl ?_
        exact kt
      obtain ⟨cq23, kq23, q23a, q23b, q23c⟩ := isOf hZ eq17 E_SHARED
      obtain ⟨_, _, ⟨T23, L23, k23, n23⟩, -, X23, ⟨Lc23, hQ23, l23, y23, z23⟩, st23⟩ := X19.virtualBack hx (y := (⟨"com/example/nestwarden/nestwarden/node/RowLocks$Mode", "conflicts", "(Lcom/example/nestwarden/nestwarden/node/RowLocks$Mode;)Z"⟩ : MethodName)) (z := (⟨"com/example/nestwarden/nestwarden/node/RowLocks$Mode", "conflicts", "(Lcom/example/nestwarden/nestwarden/node/RowLocks$Mode;)Z"⟩ : MethodName)) hown (mvT hZ (hw _ (List.mem_of_getElem? (i := 5) rfl))) (mvT hZ (hw _ (List.mem_of_getElem? (i := 6) rfl))) (notFace_of_selects (args := #[]) (mvT hZ (hw _ (List.mem_of_getElem? (i := 8) rfl)))) (mvT hZ (hw _ (List.mem_of_getElem? (i := 8) rfl))) (mvT hZ (hw _ (List.mem_of_getElem? (i := 7) rfl))) (by decide) (backOf (W := 0) (own_rm1 l Z a0 hw [] (st_SHARED) (st_SHARED) (st_EXCLUSIVE) h0 n0 Z0 S_EXCLUSIVE) hZ (hw _ (List.mem_of_getElem? (i := 9) rfl)) (hw _ (List.mem_of_getElem? (i := 1) rfl)) (by decide) (by decide)) q23a q23c (g := (mkF m 84 #[.val (.int xx), .val (.int yy), .val (.int (0 : Int32)), .val (.int (0 : Int32)), .val (.ref st_SHARED), .val (.ref st_SHARED), .val (.int (0 : Int32)), .val (.int (own_b (decide (st_SHARED = st_EXCLUSIVE ∨ st_SHARED = st_EXCLUSIVE)))), .unset] [(.ref st_SHARED), (.ref st_SHARED)])) rfl (by rw [hml]; rfl) (Steps.refl _) (argsL := [(.ref st_SHARED)]) (rest := []) (lenOf own_pd0 rfl) rfl (by show 2 * 0 + _ ≤ _; exact Nat.le_of_eq rfl) (hb hby at_84) (fun _ _ => ⟨rfl, eq17, (by decide : 0 + 0 ≤ _), (by decide : 0 + 0 ≤ _)⟩)
      dsimp only [Pt.U, Pt.locs, Pt.cells, Pt.slots] at X23 l23 y23 z23 st23 hQ23
      subst l23 y23 z23
      obtain ⟨rfl, rfl, eq21⟩ := hQ23
      try rw [List.append_nil] at X23
      have S24 : ∀ t, Steps p.tables e below (T23.setTop (mkF m 87 #[.val (.int xx), .val (.int yy), .val (.int (0 : Int32)), .val (.int (0 : Int32)), .val (.ref st_SHARED), .val (.ref st_SHARED), .val (.int (0 : Int32)), .val (.int (own_b (decide (st_SHARED = st_EXCLUSIVE ∨ st_SHARED = st_EXCLUSIVE)))), .unset] [(.int (own_b (decide (st_SHARED = st_EXCLUSIVE ∨ st_SHARED = st_EXCLUSIVE))))])) t → Steps p.tables e below (s₁.setTop (entryFrame m #[(.int xx), (.int yy)] maxLocals)) t := fun t kt => S22 t (st23.trans kt)
      have S25 : ∀ t, Steps p.tables e below (T23.setTop (mkF m 93 #[.val (.int xx), .val (.int yy), .val (.int (0 : Int32)), .val (.int (0 : Int32)), .val (.ref st_SHARED), .val (.ref st_SHARED), .val (.int (0 : Int32)), .val (.int (own_b (decide (st_SHARED = st_EXCLUSIVE ∨ st_SHARED = st_EXCLUSIVE)))), .val (.int (own_b (decide (st_SHARED = st_EXCLUSIVE ∨ st_SHARED = st_EXCLUSIVE))))] [(.int (0 : Int32)), (.int (own_b (decide (st_SHARED = st_EXCLUSIVE ∨ st_SHARED = st_EXCLUSIVE))))])) t → Steps p.tables e below (s₁.setTop (entryFrame m #[(.int xx), (.int yy)] maxLocals)) t := fun t kt => by
        refine S24 t ?_
        show Steps p.tables e below (T23.setTop (mkF m 87 #[.val (.int xx), .val (.int yy), .val (.int (0 : Int32)), .val (.int (0 : Int32)), .val (.ref st_SHARED), .val (.ref st_SHARED), .val (.int (0 : Int32)), .val (.int (own_b (decide (st_SHARED = st_EXCLUSIVE ∨ st_SHARED = st_EXCLUSIVE)))), .unset] [(.int (own_b (decide (st_SHARED = st_EXCLUSIVE ∨ st_SHARED = st_EXCLUSIVE))))])) t
        refine XS.istore X23.here hx rfl (hb hby at_87) rfl (l' := #[.val (.int xx), .val (.int yy), .val (.int (0 : Int32)), .val (.int (0 : Int32)), .val (.ref st_SHARED), .val (.ref st_SHARED), .val (.int (0 : Int32)), .val (.int (own_b (decide (st_SHARED = st_EXCLUSIVE ∨ st_SHARED = st_EXCLUSIVE)))), .val (.int (own_b (decide (st_SHARED = st_EXCLUSIVE ∨ st_SHARED = st_EXCLUSIVE))))]) rfl ?_
        show Steps p.tables e below (T23.setTop (mkF m 89 #[.val (.int xx), .val (.int yy), .val (.int (0 : Int32)), .val (.int (0 : Int32)), .val (.ref st_SHARED), .val (.ref st_SHARED), .val (.int (0 : Int32)), .val (.int (own_b (decide (st_SHARED = st_EXCLUSIVE ∨ st_SHARED = st_EXCLUSIVE)))), .val (.int (own_b (decide (st_SHARED = st_EXCLUSIVE ∨ st_SHARED = st_EXCLUSIVE))))] [])) t
        refine XS.iload X23.here hx rfl (hb hby at_89) rfl ?_
        show Steps p.tables e below (T23.setTop (mkF m 91 #[.val (.int xx), .val (.int yy), .val (.int (0 : Int32)), .val (.int (0 : Int32)), .val (.ref st_SHARED), .val (.ref st_SHARED), .val (.int (0 : Int32)), .val (.int (own_b (decide (st_SHARED = st_EXCLUSIVE ∨ st_SHARED = st_EXCLUSIVE)))), .val (.int (own_b (decide (st_SHARED = st_EXCLUSIVE ∨ st_SHARED = st_EXCLUSIVE))))] [(.int (own_b (decide (st_SHARED = st_EXCLUSIVE ∨ st_SHARED = st_EXCLUSIVE))))])) t
        refine XS.iload X23.here hx rfl (hb hby at_91) rfl ?_
        exact kt
      have hc93_26 : (own_b (decide (st_SHARED = st_EXCLUSIVE ∨ st_SHARED = st_EXCLUSIVE))) = (0 : Int32) := by simp [own_b, hne]
      have S27 : ∀ t, Steps p.tables e below (T23.setTop (mkF m 100 #[.val (.int xx), .val (.int yy), .val (.int (0 : Int32)), .val (.int (0 : Int32)), .val (.ref st_SHARED), .val (.ref st_SHARED), .val (.int (0 : Int32)), .val (.int (own_b (decide (st_SHARED = st_EXCLUSIVE ∨ st_SHARED = st_EXCLUSIVE)))), .val (.int (own_b (decide (st_SHARED = st_EXCLUSIVE ∨ st_SHARED = st_EXCLUSIVE))))] [(.int (0 : Int32)), (.int (own_b (decide (st_SHARED = st_EXCLUSIVE ∨ st_SHARED = st_EXCLUSIVE))))])) t → Steps p.tables e below (s₁.setTop (entryFrame m #[(.int xx), (.int yy)] maxLocals)) t := fun t kt => by
        refine S25 t ?_
        show Steps p.tables e below (T23.setTop (mkF m 93 #[.val (.int xx), .val (.int yy), .val (.int (0 : Int32)), .val (.int (0 : Int32)), .val (.ref st_SHARED), .val (.ref st_SHARED), .val (.int (0 : Int32)), .val (.int (own_b (decide (st_SHARED = st_EXCLUSIVE ∨ st_SHARED = st_EXCLUSIVE)))), .val (.int (own_b (decide (st_SHARED = st_EXCLUSIVE ∨ st_SHARED = st_EXCLUSIVE))))] [(.int (0 : Int32)), (.int (own_b (decide (st_SHARED = st_EXCLUSIVE ∨ st_SHARED = st_EXCLUSIVE))))])) t
        refine XS.icmpNo X23.here hx rfl (hb hby at_93) rfl (teq hc93_26).2 ?_
        show Steps p.tables e below (T23.setTop (mkF m 96 #[.val (.int xx), .val (.int yy), .val (.int (0 : Int32)), .val (.int (0 : Int32)), .val (.ref st_SHARED), .val (.ref st_SHARED), .val (.int (0 : Int32)), .val (.int (own_b (decide (st_SHARED = st_EXCLUSIVE ∨ st_SHARED = st_EXCLUSIVE)))), .val (.int (own_b (decide (st_SHARED = st_EXCLUSIVE ∨ st_SHARED = st_EXCLUSIVE))))] [])) t
        refine XS.iload X23.here hx rfl (hb hby at_96) rfl ?_
        show Steps p.tables e below (T23.setTop (mkF m 98 #[.val (.int xx), .val (.int yy), .val (.int (0 : Int32)), .val (.int (0 : Int32)), .val (.ref st_SHARED), .val (.ref st_SHARED), .val (.int (0 : Int32)), .val (.int (own_b (decide (st_SHARED = st_EXCLUSIVE ∨ st_SHARED = st_EXCLUSIVE)))), .val (.int (own_b (decide (st_SHARED = st_EXCLUSIVE ∨ st_SHARED = st_EXCLUSIVE))))] [(.int (own_b (decide (st_SHARED = st_EXCLUSIVE ∨ st_SHARED = st_EXCLUSIVE))))])) t
        refine XS.iload X23.here hx rfl (hb hby at_98) rfl ?_
        exact kt
      have hc100_28 : (own_b (decide (st_SHARED = st_EXCLUSIVE ∨ st_SHARED = st_EXCLUSIVE))) = (0 : Int32) := by simp [own_b, hne]
      have S29 : ∀ t, Steps p.tables e below (T23.setTop (mkF m 108 #[.val (.int xx), .val (.int yy), .val (.int (0 : Int32)), .val (.int (0 : Int32)), .val (.ref st_SHARED), .val (.ref st_SHARED), .val (.int (0 : Int32)), .val (.int (own_b (decide (st_SHARED = st_EXCLUSIVE ∨ st_SHARED = st_EXCLUSIVE)))), .val (.int (own_b (decide (st_SHARED = st_EXCLUSIVE ∨ st_SHARED = st_EXCLUSIVE))))] [(.int (1 : Int32))])) t → Steps p.tables e below (s₁.setTop (entryFrame m #[(.int xx), (.int yy)] maxLocals)) t := fun t kt => by
        refine S27 t ?_
        show Steps p.tables e below (T23.setTop (mkF m 100 #[.val (.int xx), .val (.int yy), .val (.int (0 : Int32)), .val (.int (0 : Int32)), .val (.ref st_SHARED), .val (.ref st_SHARED), .val (.int (0 : Int32)), .val (.int (own_b (decide (st_SHARED = st_EXCLUSIVE ∨ st_SHARED = st_EXCLUSIVE)))), .val (.int (own_b (decide (st_SHARED = st_EXCLUSIVE ∨ st_SHARED = st_EXCLUSIVE))))] [(.int (0 : Int32)), (.int (own_b (decide (st_SHARED = st_EXCLUSIVE ∨ st_SHARED = st_EXCLUSIVE))))])) t
        refine XS.icmpNo X23.here hx rfl (hb hby at_100) rfl (teq hc100_28).2 ?_
        show Steps p.tables e below (T23.setTop (mkF m 103 #[.val (.int xx), .val (.int yy), .val (.int (0 : Int32)), .val (.int (0 : Int32)), .val (.ref st_SHARED), .val (.ref st_SHARED), .val (.int (0 : Int32)), .val (.int (own_b (decide (st_SHARED = st_EXCLUSIVE ∨ st_SHARED = st_EXCLUSIVE)))), .val (.int (own_b (decide (st_SHARED = st_EXCLUSIVE ∨ st_SHARED = st_EXCLUSIVE))))] [])) t
        refine XS.iconst X23.here hx rfl (hb hby at_103) ?_
        show Steps p.tables e below (T23.setTop (mkF m 104 #[.val (.int xx), .val (.int yy), .val (.int (0 : Int32)), .val (.int (0 : Int32)), .val (.ref st_SHARED), .val (.ref st_SHARED), .val (.int (0 : Int32)), .val (.int (own_b (decide (st_SHARED = st_EXCLUSIVE ∨ st_SHARED = st_EXCLUSIVE)))), .val (.int (own_b (decide (st_SHARED = st_EXCLUSIVE ∨ st_SHARED = st_EXCLUSIVE))))] [(.int (1 : Int32))])) t
        refine XS.goto X23.here hx rfl (pc0 := 104) (pc' := 108) rfl (hb hby at_104) (by decide) (by decide) ?_
        exact kt
      obtain ⟨fs, hr, hrun, hended, hW, hsame⟩ := X23.leave (v := some (.int (nar .boolean (1 : Int32)))) (fun h => by rw [Bd.returns] at h; cases h)
      refine ⟨_, _, S29 _ ?_, hrun, hended, _, _, rfl, ?_, ⟨_, rfl⟩, hW, hsame.mono (by decide) (by decide)⟩
      · show Steps p.tables e below (T23.setTop (mkF m 108 #[.val (.int xx), .val (.int yy), .val (.int (0 : Int32)), .val (.int (0 : Int32)), .val (.ref st_SHARED), .val (.ref st_SHARED), .val (.int (0 : Int32)), .val (.int (own_b (decide (st_SHARED = st_EXCLUSIVE ∨ st_SHARED = st_EXCLUSIVE)))), .val (.int (own_b (decide (st_SHARED = st_EXCLUSIVE ∨ st_SHARED = st_EXCLUSIVE))))] [(.int (1 : Int32))])) _
        exact retN X23 hx (t := .boolean) Bd.returns (by simp) (hb hby at_108) hr
      · show own_Q0 Z xx yy st_SHARED st_EXCLUSIVE h0 n0 _ T23.heap _
        rw [eq21]
        exact ⟨rfl, N0⟩
    · skip
      have S30 : ∀ t, Steps p.tables e below (s₁.setTop (mkF m 25 #[.val (.int xx), .val (.int yy), .val (.int (0 : Int32)), .val (.int (1 : Int32)), .unset, .unset, .unset, .unset, .unset] [(.int (0 : Int32))])) t → Steps p.tables e below (s₁.setTop (entryFrame m #[(.int xx), (.int yy)] maxLocals)) t := fun t kt => by
        refine S2 t ?_
        show Steps p.tables e below (s₁.setTop (mkF m 15 #[.val (.int xx), .val (.int yy), .val (.int (0 : Int32)), .unset, .unset, .unset, .unset, .unset, .unset] [(.int (yy &&& (1 : Int32)))])) t
        refine XS.ifNo X0.here hx rfl (hb hby at_15) rfl ((if0 _ _).trans (feq hc15).1) ?_
        show Steps p.tables e below (s₁.setTop (mkF m 18 #[.val (.int xx), .val (.int yy), .val (.int (0 : Int32)), .unset, .unset, .unset, .unset, .unset, .unset] [])) t
        refine XS.iconst X0.here hx rfl (hb hby at_18) ?_
        show Steps p.tables e below (s₁.setTop (mkF m 19 #[.val (.int xx), .val (.int yy), .val (.int (0 : Int32)), .unset, .unset, .unset, .unset, .unset, .unset] [(.int (1 : Int32))])) t
        refine XS.goto X0.here hx rfl (pc0 := 19) (pc' := 23) rfl (hb hby at_19) (by decide) (by decide) ?_
        show Steps p.tables e below (s₁.setTop (mkF m 23 #[.val (.int xx), .val (.int yy), .val (.int (0 : Int32)), .unset, .unset, .unset, .unset, .unset, .unset] [(.int (1 : Int32))])) t
        refine XS.istoreN X0.here hx rfl (hb hby at_23) rfl (l' := #[.val (.int xx), .val (.int yy), .val (.int (0 : Int32)), .val (.int (1 : Int32)), .unset, .unset, .unset, .unset, .unset]) rfl ?_
        show Steps p.tables e below (s₁.setTop (mkF m 24 #[.val (.int xx), .val (.int yy), .val (.int (0 : Int32)), .val (.int (1 : Int32)), .unset, .unset, .unset, .unset, .unset] [])) t
        refine XS.iloadN X0.here hx rfl (hb hby at_24) rfl ?_
        exact kt
      have hc25_31 : (0 : Int32) = (0 : Int32) := by decide
      have S32 : ∀ t, Steps p.tables e below (s₁.setTop (mkF m 34 #[.val (.int xx), .val (.int yy), .val (.int (0 : Int32)), .val (.int (1 : Int32)), .unset, .unset, .unset, .unset, .unset] [])) t → Steps p.tables e below (s₁.setTop (entryFrame m #[(.int xx), (.int yy)] maxLocals)) t := fun t kt => by
        refine S30 t ?_
        show Steps p.tables e below (s₁.setTop (mkF m 25 #[.val (.int xx), .val (.int yy), .val (.int (0 : Int32)), .val (.int (1 : Int32)), .unset, .unset, .unset, .unset, .unset] [(.int (0 : Int32))])) t
        refine XS.ifYes X0.here hx rfl (pc0 := 25) (pc' := 34) rfl (hb hby at_25) rfl ((if0 _ _).trans (teq hc25_31).1) (by decide) (by decide) ?_
        exact kt
      obtain ⟨T33, X33, e33, st33⟩ := getS2 X0 hx hZ hown (host := "") (Or.inl (hw _ (List.mem_of_getElem? (i := 0) rfl))) Via.refl e0 S_SHARED (g := (mkF m 34 #[.val (.int xx), .val (.int yy), .val (.int (0 : Int32)), .val (.int (1 : Int32)), .unset, .unset, .unset, .unset, .unset] [])) rfl (hb hby at_34)
      have S34 : ∀ t, Steps p.tables e below (T33.setTop (mkF m 37 #[.val (.int xx), .val (.int yy), .val (.int (0 : Int32)), .val (.int (1 : Int32)), .unset, .unset, .unset, .unset, .unset] [(.ref st_SHARED)])) t → Steps p.tables e below (s₁.setTop (entryFrame m #[(.int xx), (.int yy)] maxLocals)) t := fun t kt => S32 t (st33 _ kt)
      have S35 : ∀ t, Steps p.tables e below (T33.setTop (mkF m 40 #[.val (.int xx), .val (.int yy), .val (.int (0 : Int32)), .val (.int (1 : Int32)), .val (.ref st_SHARED), .unset, .unset, .unset, .unset] [(.int (1 : Int32))])) t → Steps p.tables e below (s₁.setTop (entryFrame m #[(.int xx), (.int yy)] maxLocals)) t := fun t kt => by
        refine S34 t ?_
        show Steps p.tables e below (T33.setTop (mkF m 37 #[.val (.int xx), .val (.int yy), .val (.int (0 : Int32)), .val (.int (1 : Int32)), .unset, .unset, .unset, .unset, .unset] [(.ref st_SHARED)])) t
        refine XS.astore X33.here hx rfl (hb hby at_37) rfl rfl (l' := #[.val (.int xx), .val (.int yy), .val (.int (0 : Int32)), .val (.int (1 : Int32)), .val (.ref st_SHARED), .unset, .unset, .unset, .unset]) rfl ?_
        show Steps p.tables e below (T33.setTop (mkF m 39 #[.val (.int xx), .val (.int yy), .val (.int (0 : Int32)), .val (.int (1 : Int32)), .val (.ref st_SHARED), .unset, .unset, .unset, .unset] [])) t
        refine XS.iloadN X33.here hx rfl (hb hby at_39) rfl ?_
        exact kt
      have hc40_36 : ¬ ((1 : Int32) = (0 : Int32)) := by decide
      have S37 : ∀ t, Steps p.tables e below (T33.setTop (mkF m 43 #[.val (.int xx), .val (.int yy), .val (.int (0 : Int32)), .val (.int (1 : Int32)), .val (.ref st_SHARED), .unset, .unset, .unset, .unset] [])) t → Steps p.tables e below (s₁.setTop (entryFrame m #[(.int xx), (.int yy)] maxLocals)) t := fun t kt => by
        refine S35 t ?_
        show Steps p.tables e below (T33.setTop (mkF m 40 #[.val (.int xx), .val (.int yy), .val (.int (0 : Int32)), .val (.int (1 : Int32)), .val (.ref st_SHARED), .unset, .unset, .unset, .unset] [(.int (1 : Int32))])) t
        refine XS.ifNo X33.here hx rfl (hb hby at_40) rfl ((if0 _ _).trans (feq hc40_36).1) ?_
        exact kt
      obtain ⟨T38, X38, e38, st38⟩ := getS2 X33 hx hZ hown (host := "") (Or.inl (hw _ (List.mem_of_getElem? (i := 3) rfl))) Via.refl e33 S_EXCLUSIVE (g := (mkF m 43 #[.val (.int xx), .val (.int yy), .val (.int (0 : Int32)), .val (.int (1 : Int32)), .val (.ref st_SHARED), .unset, .unset, .unset, .unset] [])) rfl (hb hby at_43)
      have S39 : ∀ t, Steps p.tables e below (T38.setTop (mkF m 46 #[.val (.int xx), .val (.int yy), .val (.int (0 : Int32)), .val (.int (1 : Int32)), .val (.ref st_SHARED), .unset, .unset, .unset, .unset] [(.ref st_EXCLUSIVE)])) t → Steps p.tables e below (s₁.setTop (entryFrame m #[(.int xx), (.int yy)] maxLocals)) t := fun t kt => S37 t (st38 _ kt)
      have S40 : ∀ t, Steps p.tables e below (T38.setTop (mkF m 55 #[.val (.int xx), .val (.int yy), .val (.int (0 : Int32)), .val (.int (1 : Int32)), .val (.ref st_SHARED), .val (.ref st_EXCLUSIVE), .unset, .unset, .unset] [(.int (0 : Int32))])) t → Steps p.tables e below (s₁.setTop (entryFrame m #[(.int xx), (.int yy)] maxLocals)) t := fun t kt => by
        refine S39 t ?_
        show Steps p.tables e below (T38.setTop (mkF m 46 #[.val (.int xx), .val (.int yy), .val (.int (0 : Int32)), .val (.int (1 : Int32)), .val (.ref st_SHARED), .unset, .unset, .unset, .unset] [(.ref st_EXCLUSIVE)])) t
        refine XS.goto X38.here hx rfl (pc0 := 46) (pc' := 52) rfl (hb hby at_46) (by decide) (by decide) ?_
        show Steps p.tables e below (T38.setTop (mkF m 52 #[.val (.int xx), .val (.int yy), .val (.int (0 : Int32)), .val (.int (1 : Int32)), .val (.ref st_SHARED), .unset, .unset, .unset, .unset] [(.ref st_EXCLUSIVE)])) t
        refine XS.astore X38.here hx rfl (hb hby at_52) rfl rfl (l' := #[.val (.int xx), .val (.int yy), .val (.int (0 : Int32)), .val (.int (1 : Int32)), .val (.ref st_SHARED), .val (.ref st_EXCLUSIVE), .unset, .unset, .unset]) rfl ?_
        show Steps p.tables e below (T38.setTop (mkF m 54 #[.val (.int xx), .val (.int yy), .val (.int (0 : Int32)), .val (.int (1 : Int32)), .val (.ref st_SHARED), .val (.ref st_EXCLUSIVE), .unset, .unset, .unset] [])) t
        refine XS.iloadN X38.here hx rfl (hb hby at_54) rfl ?_
        exact kt
      have hc55_41 : (0 : Int32) = (0 : Int32) := by decide
      have S42 : ∀ t, Steps p.tables e below (T38.setTop (mkF m 59 #[.val (.int xx), .val (.int yy), .val (.int (0 : Int32)), .val (.int (1 : Int32)), .val (.ref st_SHARED), .val (.ref st_EXCLUSIVE), .unset, .unset, .unset] [(.int (1 : Int32))])) t → Steps p.tables e below (s₁.setTop (entryFrame m #[(.int xx), (.int yy)] maxLocals)) t := fun t kt => by
        refine S40 t ?_
        show Steps p.tables e below (T38.setTop (mkF m 55 #[.val (.int xx), .val (.int yy), .val (.int (0 : Int32)), .val (.int (1 : Int32)), .val (.ref st_SHARED), .val (.ref st_EXCLUSIVE), .unset, .unset, .unset] [(.int (0 : Int32))])) t
        refine XS.ifNo X38.here hx rfl (hb hby at_55) rfl ((if0 _ _).trans (teq hc55_41).2) ?_
        show Steps p.tables e below (T38.setTop (mkF m 58 #[.val (.int xx), .val (.int yy), .val (.int (0 : Int32)), .val (.int (1 : Int32)), .val (.ref st_SHARED), .val (.ref st_EXCLUSIVE), .unset, .unset, .unset] [])) t
        refine XS.iloadN X38.here hx rfl (hb hby at_58) rfl ?_
        exact kt
      have hc59_43 : ¬ ((1 : Int32) = (0 : Int32)) := by decide
      have S45 : ∀ t, Steps p.tables e below (T38.setTop (mkF m 75 #[.val (.int xx), .val (.int yy), .val (.int (0 : Int32)), .val (.int (1 : Int32)), .val (.ref st_SHARED), .val (.ref st_EXCLUSIVE), .val (.int (1 : Int32)), .unset, .unset] [(.ref st_EXCLUSIVE), (.ref st_SHARED)])) t → Steps p.tables e below (s₁.setTop (entryFrame m #[(.int xx), (.int yy)] maxLocals)) t := fun t kt => by
        refine S42 t ?_
        show Steps p.tables e below (T38.setTop (mkF m 59 #[.val (.int xx), .val (.int yy), .val (.int (0 : Int32)), .val (.int (1 : Int32)), .val (.ref st_SHARED), .val (.ref st_EXCLUSIVE), .unset, .unset, .unset] [(.int (1 : Int32))])) t
        refine XS.ifYes X38.here hx rfl (pc0 := 59) (pc' := 68) rfl (hb hby at_59) rfl ((if0 _ _).trans (feq hc59_43).2) (by decide) (by decide) ?_
        show Steps p.tables e below (T38.setTop (mkF m 68 #[.val (.int xx), .val (.int yy), .val (.int (0 : Int32)), .val (.int (1 : Int32)), .val (.ref st_SHARED), .val (.ref st_EXCLUSIVE), .unset, .unset, .unset] [])) t
        refine XS.iconst X38.here hx rfl (hb hby at_68) ?_
        show Steps p.tables e below (T38.setTop (mkF m 69 #[.val (.int xx), .val (.int yy), .val (.int (0 : Int32)), .val (.int (1 : Int32)), .val (.ref st_SHARED), .val (.ref st_EXCLUSIVE), .unset, .unset, .unset] [(.int (1 : Int32))])) t
        refine XS.istore X38.here hx rfl (hb hby at_69) rfl (l' := #[.val (.int xx), .val (.int yy), .val (.int (0 : Int32)), .val (.int (1 : Int32)), .val (.ref st_SHARED), .val (.ref st_EXCLUSIVE), .val (.int (1 : Int32)), .unset, .unset]) rfl ?_
        show Steps p.tables e below (T38.setTop (mkF m 71 #[.val (.int xx), .val (.int yy), .val (.int (0 : Int32)), .val (.int (1 : Int32)), .val (.ref st_SHARED), .val (.ref st_EXCLUSIVE), .val (.int (1 : Int32)), .unset, .unset] [])) t
        refine XS.aload X38.here hx rfl (hb hby at_71) rfl rfl ?_
        show Steps p.tables e below (T38.setTop (mkF m 73 #[.val (.int xx), .val (.int yy), .val (.int (0 : Int32)), .val (.int (1 : Int32)), .val (.ref st_SHARED), .val (.ref st_EXCLUSIVE), .val (.int (1 : Int32)), .unset, .unset] [(.ref st_SHARED)])) t
        refine XS.aload X38.here hx rfl (hb hby at_73) rfl rfl ?_
        exact kt
      obtain ⟨cq46, kq46, q46a, q46b, q46c⟩ := isOf hZ e38 E_SHARED
      obtain ⟨_, _, ⟨T46, L46, k46, n46⟩, -, X46, ⟨Lc46, hQ46, l46, y46, z46⟩, st46⟩ := X38.virtualBack hx (y := (⟨"com/example/nestwarden/nestwarden/node/RowLocks$Mode", "conflicts", "(Lcom/example/nestwarden/nestwarden/node/RowLocks$Mode;)Z"⟩ : MethodName)) (z := (⟨"com/example/nestwarden/nestwarden/node/RowLocks$Mode", "conflicts", "(Lcom/example/nestwarden/nestwarden/node/RowLocks$Mode;)Z"⟩ : MethodName)) hown (mvT hZ (hw _ (List.mem_of_getElem? (i := 5) rfl))) (mvT hZ (hw _ (List.mem_of_getElem? (i := 6) rfl))) (notFace_of_selects (args := #[]) (mvT hZ (hw _ (List.mem_of_getElem? (i := 8) rfl)))) (mvT hZ (hw _ (List.mem_of_getElem? (i := 8) rfl))) (mvT hZ (hw _ (List.mem_of_getElem? (i := 7) rfl))) (by decide) (backOf (W := 0) (own_rm1 l Z a0 hw [] (st_SHARED) (st_EXCLUSIVE) (st_EXCLUSIVE) h0 n0 Z0 S_EXCLUSIVE) hZ (hw _ (List.mem_of_getElem? (i := 9) rfl)) (hw _ (List.mem_of_getElem? (i := 1) rfl)) (by decide) (by decide)) q46a q46c (g := (mkF m 75 #[.val (.int xx), .val (.int yy), .val (.int (0 : Int32)), .val (.int (1 : Int32)), .val (.ref st_SHARED), .val (.ref st_EXCLUSIVE), .val (.int (1 : Int32)), .unset, .unset] [(.ref st_EXCLUSIVE), (.ref st_SHARED)])) rfl (by rw [hml]; rfl) (Steps.refl _) (argsL := [(.ref st_EXCLUSIVE)]) (rest := []) (lenOf own_pd0 rfl) rfl (by show 2 * 0 + _ ≤ _; exact Nat.le_of_eq rfl) (hb hby at_75) (fun _ _ => ⟨rfl, e38, (by decide : 0 + 0 ≤ _), (by decide : 0 + 0 ≤ _)⟩)
      dsimp only [Pt.U, Pt.locs, Pt.cells, Pt.slots] at X46 l46 y46 z46 st46 hQ46
      subst l46 y46 z46
      obtain ⟨rfl, rfl, eq44⟩ := hQ46
      try rw [List.append_nil] at X46
      have S47 : ∀ t, Steps p.tables e below (T46.setTop (mkF m 78 #[.val (.int xx), .val (.int yy), .val (.int (0 : Int32)), .val (.int (1 : Int32)), .val (.ref st_SHARED), .val (.ref st_EXCLUSIVE), .val (.int (1 : Int32)), .unset, .unset] [(.int (own_b (decide (st_SHARED = st_EXCLUSIVE ∨ st_EXCLUSIVE = st_EXCLUSIVE))))])) t → Steps p.tables e below (s₁.setTop (entryFrame m #[(.int xx), (.int yy)] maxLocals)) t := fun t kt => S45 t (st46.trans kt)
      have S49 : ∀ t, Steps p.tables e below (T46.setTop (mkF m 84 #[.val (.int xx), .val (.int yy), .val (.int (0 : Int32)), .val (.int (1 : Int32)), .val (.ref st_SHARED), .val (.ref st_EXCLUSIVE), .val (.int (1 : Int32)), .val (.int (own_b (decide (st_SHARED = st_EXCLUSIVE ∨ st_EXCLUSIVE = st_EXCLUSIVE)))), .unset] [(.ref st_SHARED), (.ref st_EXCLUSIVE)])) t → Steps p.tables e below (s₁.setTop (entryFrame m #[(.int xx), (.int yy)] maxLocals)) t := fun t kt => by
        refine S47 t ?_
        show Steps p.tables e below (T46.setTop (mkF m 78 #[.val (.int xx), .val (.int yy), .val (.int (0 : Int32)), .val (.int (1 : Int32)), .val (.ref st_SHARED), .val (.ref st_EXCLUSIVE), .val (.int (1 : Int32)), .unset, .unset] [(.int (own_b (decide (st_SHARED = st_EXCLUSIVE ∨ st_EXCLUSIVE = st_EXCLUSIVE))))])) t
        refine XS.istore X46.here hx rfl (hb hby at_78) rfl (l' := #[.val (.int xx), .val (.int yy), .val (.int (0 : Int32)), .val (.int (1 : Int32)), .val (.ref st_SHARED), .val (.ref st_EXCLUSIVE), .val (.int (1 : Int32)), .val (.int (own_b (decide (st_SHARED = st_EXCLUSIVE ∨ st_EXCLUSIVE = st_EXCLUSIVE)))), .unset]) rfl ?_
        show Steps p.tables e below (T46.setTop (mkF m 80 #[.val (.int xx), .val (.int yy), .val (.int (0 : Int32)), .val (.int (1 : Int32)), .val (.ref st_SHARED), .val (.ref st_EXCLUSIVE), .val (.int (1 : Int32)), .val (.int (own_b (decide (st_SHARED = st_EXCLUSIVE ∨ st_EXCLUSIVE = st_EXCLUSIVE)))), .unset] [])) t
        refine XS.aload X46.here hx rfl (hb hby at_80) rfl rfl ?_
        show Steps p.tables e below (T46.setTop (mkF m 82 #[.val (.int xx), .val (.int yy), .val (.int (0 : Int32)), .val (.int (1 : Int32)), .val (.ref st_SHARED), .val (.ref st_EXCLUSIVE), .val (.int (1 : Int32)), .val (.int (own_b (decide (st_SHARED = st_EXCLUSIVE ∨ st_EXCLUSIVE = st_EXCLUSIVE)))), .unset] [(.ref st_EXCLUSIVE)])) t
        refine XS.aload X46.here hx rfl (hb hby at_82) rfl rfl ?_
        exact kt
      obtain ⟨cq50, kq50, q50a, q50b, q50c⟩ := isOf hZ eq44 E_EXCLUSIVE
      obtain ⟨_, _, ⟨T50, L50, k50, n50⟩, -, X50, ⟨Lc50, hQ50, l50, y50, z50⟩, st50⟩ := X46.virtualBack hx (y := (⟨"com/example/nestwarden/nestwarden/node/RowLocks$Mode", "conflicts", "(Lcom/example/nestwarden/nestwarden/node/RowLocks$Mode;)Z"⟩ : MethodName)) (z := (⟨"com/example/nestwarden/nestwarden/node/RowLocks$Mode", "conflicts", "(Lcom/example/nestwarden/nestwarden/node/RowLocks$Mode;)Z"⟩ : MethodName)) hown (mvT hZ (hw _ (List.mem_of_getElem? (i := 5) rfl))) (mvT hZ (hw _ (List.mem_of_getElem? (i := 6) rfl))) (notFace_of_selects (args := #[]) (mvT hZ (hw _ (List.mem_of_getElem? (i := 8) rfl)))) (mvT hZ (hw _ (List.mem_of_getElem? (i := 8) rfl))) (mvT hZ (hw _ (List.mem_of_getElem? (i := 7) rfl))) (by decide) (backOf (W := 0) (own_rm1 l Z a0 hw [] (st_EXCLUSIVE) (st_SHARED) (st_EXCLUSIVE) h0 n0 Z0 S_EXCLUSIVE) hZ (hw _ (List.mem_of_getElem? (i := 9) rfl)) (hw _ (List.mem_of_getElem? (i := 1) rfl)) (by decide) (by decide)) q50a q50c (g := (mkF m 84 #[.val (.int xx), .val (.int yy), .val (.int (0 : Int32)), .val (.int (1 : Int32)), .val (.ref st_SHARED), .val (.ref st_EXCLUSIVE), .val (.int (1 : Int32)), .val (.int (own_b (decide (st_SHARED = st_EXCLUSIVE ∨ st_EXCLUSIVE = st_EXCLUSIVE)))), .unset] [(.ref st_SHARED), (.ref st_EXCLUSIVE)])) rfl (by rw [hml]; rfl) (Steps.refl _) (argsL := [(.ref st_SHARED)]) (rest := []) (lenOf own_pd0 rfl) rfl (by show 2 * 0 + _ ≤ _; exact Nat.le_of_eq rfl) (hb hby at_84) (fun _ _ => ⟨rfl, eq44, (by decide : 0 + 0 ≤ _), (by decide : 0 + 0 ≤ _)⟩)
      dsimp only [Pt.U, Pt.locs, Pt.cells, Pt.slots] at X50 l50 y50 z50 st50 hQ50
      subst l50 y50 z50
      obtain ⟨rfl, rfl, eq48⟩ := hQ50
      try rw [List.append_nil] at X50
      have S51 : ∀ t, Steps p.tables e below (T50.setTop (mkF m 87 #[.val (.int xx), .val (.int yy), .val (.int (0 : Int32)), .val (.int (1 : Int32)), .val (.ref st_SHARED), .val (.ref st_EXCLUSIVE), .val (.int (1 : Int32)), .val (.int (own_b (decide (st_SHARED = st_EXCLUSIVE ∨ st_EXCLUSIVE = st_EXCLUSIVE)))), .unset] [(.int (own_b (decide (st_EXCLUSIVE = st_EXCLUSIVE ∨ st_SHARED = st_EXCLUSIVE))))])) t → Steps p.tables e below (s₁.setTop (entryFrame m #[(.int xx), (.int yy)] maxLocals)) t := fun t kt => S49 t (st50.trans kt)
      have S52 : ∀ t, Steps p.tables e below (T50.setTop (mkF m 93 #[.val (.int xx), .val (.int yy), .val (.int (0 : Int32)), .val (.int (1 : Int32)), .val (.ref st_SHARED), .val (.ref st_EXCLUSIVE), .val (.int (1 : Int32)), .val (.int (own_b (decide (st_SHARED = st_EXCLUSIVE ∨ st_EXCLUSIVE = st_EXCLUSIVE)))), .val (.int (own_b (decide (st_EXCLUSIVE = st_EXCLUSIVE ∨ st_SHARED = st_EXCLUSIVE))))] [(.int (1 : Int32)), (.int (own_b (decide (st_SHARED = st_EXCLUSIVE ∨ st_EXCLUSIVE = st_EXCLUSIVE))))])) t → Steps p.tables e below (s₁.setTop (entryFrame m #[(.int xx), (.int yy)] maxLocals)) t := fun t kt => by
        refine S51 t ?_
        show Steps p.tables e below (T50.setTop (mkF m 87 #[.val (.int xx), .val (.int yy), .val (.int (0 : Int32)), .val (.int (1 : Int32)), .val (.ref st_SHARED), .val (.ref st_EXCLUSIVE), .val (.int (1 : Int32)), .val (.int (own_b (decide (st_SHARED = st_EXCLUSIVE ∨ st_EXCLUSIVE = st_EXCLUSIVE)))), .unset] [(.int (own_b (decide (st_EXCLUSIVE = st_EXCLUSIVE ∨ st_SHARED = st_EXCLUSIVE))))])) t
        refine XS.istore X50.here hx rfl (hb hby at_87) rfl (l' := #[.val (.int xx), .val (.int yy), .val (.int (0 : Int32)), .val (.int (1 : Int32)), .val (.ref st_SHARED), .val (.ref st_EXCLUSIVE), .val (.int (1 : Int32)), .val (.int (own_b (decide (st_SHARED = st_EXCLUSIVE ∨ st_EXCLUSIVE = st_EXCLUSIVE)))), .val (.int (own_b (decide (st_EXCLUSIVE = st_EXCLUSIVE ∨ st_SHARED = st_EXCLUSIVE))))]) rfl ?_
        show Steps p.tables e below (T50.setTop (mkF m 89 #[.val (.int xx), .val (.int yy), .val (.int (0 : Int32)), .val (.int (1 : Int32)), .val (.ref st_SHARED), .val (.ref st_EXCLUSIVE), .val (.int (1 : Int32)), .val (.int (own_b (decide (st_SHARED = st_EXCLUSIVE ∨ st_EXCLUSIVE = st_EXCLUSIVE)))), .val (.int (own_b (decide (st_EXCLUSIVE = st_EXCLUSIVE ∨ st_SHARED = st_EXCLUSIVE))))] [])) t
        refine XS.iload X50.here hx rfl (hb hby at_89) rfl ?_
        show Steps p.tables e below (T50.setTop (mkF m 91 #[.val (.int xx), .val (.int yy), .val (.int (0 : Int32)), .val (.int (1 : Int32)), .val (.ref st_SHARED), .val (.ref st_EXCLUSIVE), .val (.int (1 : Int32)), .val (.int (own_b (decide (st_SHARED = st_EXCLUSIVE ∨ st_EXCLUSIVE = st_EXCLUSIVE)))), .val (.int (own_b (decide (st_EXCLUSIVE = st_EXCLUSIVE ∨ st_SHARED = st_EXCLUSIVE))))] [(.int (own_b (decide (st_SHARED = st_EXCLUSIVE ∨ st_EXCLUSIVE = st_EXCLUSIVE))))])) t
        refine XS.iload X50.here hx rfl (hb hby at_91) rfl ?_
        exact kt
      have hc93_53 : (own_b (decide (st_SHARED = st_EXCLUSIVE ∨ st_EXCLUSIVE = st_EXCLUSIVE))) = (1 : Int32) := by simp [own_b, hne]
      have S54 : ∀ t, Steps p.tables e below (T50.setTop (mkF m 100 #[.val (.int xx), .val (.int yy), .val (.int (0 : Int32)), .val (.int (1 : Int32)), .val (.ref st_SHARED), .val (.ref st_EXCLUSIVE), .val (.int (1 : Int32)), .val (.int (own_b (decide (st_SHARED = st_EXCLUSIVE ∨ st_EXCLUSIVE = st_EXCLUSIVE)))), .val (.int (own_b (decide (st_EXCLUSIVE = st_EXCLUSIVE ∨ st_SHARED = st_EXCLUSIVE))))] [(.int (1 : Int32)), (.int (own_b (decide (st_EXCLUSIVE = st_EXCLUSIVE ∨ st_SHARED = st_EXCLUSIVE))))])) t → Steps p.tables e below (s₁.setTop (entryFrame m #[(.int xx), (.int yy)] maxLocals)) t := fun t kt => by
        refine S52 t ?_
        show Steps p.tables e below (T50.setTop (mkF m 93 #[.val (.int xx), .val (.int yy), .val (.int (0 : Int32)), .val (.int (1 : Int32)), .val (.ref st_SHARED), .val (.ref st_EXCLUSIVE), .val (.int (1 : Int32)), .val (.int (own_b (decide (st_SHARED = st_EXCLUSIVE ∨ st_EXCLUSIVE = st_EXCLUSIVE)))), .val (.int (own_b (decide (st_EXCLUSIVE = st_EXCLUSIVE ∨ st_SHARED = st_EXCLUSIVE))))] [(.int (1 : Int32)), (.int (own_b (decide (st_SHARED = st_EXCLUSIVE ∨ st_EXCLUSIVE = st_EXCLUSIVE))))])) t
        refine XS.icmpNo X50.here hx rfl (hb hby at_93) rfl (teq hc93_53).2 ?_
        show Steps p.tables e below (T50.setTop (mkF m 96 #[.val (.int xx), .val (.int yy), .val (.int (0 : Int32)), .val (.int (1 : Int32)), .val (.ref st_SHARED), .val (.ref st_EXCLUSIVE), .val (.int (1 : Int32)), .val (.int (own_b (decide (st_SHARED = st_EXCLUSIVE ∨ st_EXCLUSIVE = st_EXCLUSIVE)))), .val (.int (own_b (decide (st_EXCLUSIVE = st_EXCLUSIVE ∨ st_SHARED = st_EXCLUSIVE))))] [])) t
        refine XS.iload X50.here hx rfl (hb hby at_96) rfl ?_
        show Steps p.tables e below (T50.setTop (mkF m 98 #[.val (.int xx), .val (.int yy), .val (.int (0 : Int32)), .val (.int (1 : Int32)), .val (.ref st_SHARED), .val (.ref st_EXCLUSIVE), .val (.int (1 : Int32)), .val (.int (own_b (decide (st_SHARED = st_EXCLUSIVE ∨ st_EXCLUSIVE = st_EXCLUSIVE)))), .val (.int (own_b (decide (st_EXCLUSIVE = st_EXCLUSIVE ∨ st_SHARED = st_EXCLUSIVE))))] [(.int (own_b (decide (st_EXCLUSIVE = st_EXCLUSIVE ∨ st_SHARED = st_EXCLUSIVE))))])) t
        refine XS.iload X50.here hx rfl (hb hby at_98) rfl ?_
        exact kt
      have hc100_55 : (own_b (decide (st_EXCLUSIVE = st_EXCLUSIVE ∨ st_SHARED = st_EXCLUSIVE))) = (1 : Int32) := by simp [own_b, hne]
      have S56 : ∀ t, Steps p.tables e below (T50.setTop (mkF m 108 #[.val (.int xx), .val (.int yy), .val (.int (0 : Int32)), .val (.int (1 : Int32)), .val (.ref st_SHARED), .val (.ref st_EXCLUSIVE), .val (.int (1 : Int32)), .val (.int (own_b (decide (st_SHARED = st_EXCLUSIVE ∨ st_EXCLUSIVE = st_EXCLUSIVE)))), .val (.int (own_b (decide (st_EXCLUSIVE = st_EXCLUSIVE ∨ st_SHARED = st_EXCLUSIVE))))] [(.int (1 : Int32))])) t → Steps p.tables e below (s₁.setTop (entryFrame m #[(.int xx), (.int yy)] maxLocals)) t := fun t kt => by
        refine S54 t ?_
        show Steps p.tables e below (T50.setTop (mkF m 100 #[.val (.int xx), .val (.int yy), .val (.int (0 : Int32)), .val (.int (1 : Int32)), .val (.ref st_SHARED), .val (.ref st_EXCLUSIVE), .val (.int (1 : Int32)), .val (.int (own_b (decide (st_SHARED = st_EXCLUSIVE ∨ st_EXCLUSIVE = st_EXCLUSIVE)))), .val (.int (own_b (decide (st_EXCLUSIVE = st_EXCLUSIVE ∨ st_SHARED = st_EXCLUSIVE))))] [(.int (1 : Int32)), (.int (own_b (decide (st_EXCLUSIVE = st_EXCLUSIVE ∨ st_SHARED = st_EXCLUSIVE))))])) t
        refine XS.icmpNo X50.here hx rfl (hb hby at_100) rfl (teq hc100_55).2 ?_
        show Steps p.tables e below (T50.setTop (mkF m 103 #[.val (.int xx), .val (.int yy), .val (.int (0 : Int32)), .val (.int (1 : Int32)), .val (.ref st_SHARED), .val (.ref st_EXCLUSIVE), .val (.int (1 : Int32)), .val (.int (own_b (decide (st_SHARED = st_EXCLUSIVE ∨ st_EXCLUSIVE = st_EXCLUSIVE)))), .val (.int (own_b (decide (st_EXCLUSIVE = st_EXCLUSIVE ∨ st_SHARED = st_EXCLUSIVE))))] [])) t
        refine XS.iconst X50.here hx rfl (hb hby at_103) ?_
        show Steps p.tables e below (T50.setTop (mkF m 104 #[.val (.int xx), .val (.int yy), .val (.int (0 : Int32)), .val (.int (1 : Int32)), .val (.ref st_SHARED), .val (.ref st_EXCLUSIVE), .val (.int (1 : Int32)), .val (.int (own_b (decide (st_SHARED = st_EXCLUSIVE ∨ st_EXCLUSIVE = st_EXCLUSIVE)))), .val (.int (own_b (decide (st_EXCLUSIVE = st_EXCLUSIVE ∨ st_SHARED = st_EXCLUSIVE))))] [(.int (1 : Int32))])) t
        refine XS.goto X50.here hx rfl (pc0 := 104) (pc' := 108) rfl (hb hby at_104) (by decide) (by decide) ?_
        exact kt
      obtain ⟨fs, hr, hrun, hended, hW, hsame⟩ := X50.leave (v := some (.int (nar .boolean (1 : Int32)))) (fun h => by rw [Bd.returns] at h; cases h)
      refine ⟨_, _, S56 _ ?_, hrun, hended, _, _, rfl, ?_, ⟨_, rfl⟩, hW, hsame.mono (by decide) (by decide)⟩
      · show Steps p.tables e below (T50.setTop (mkF m 108 #[.val (.int xx), .val (.int yy), .val (.int (0 : Int32)), .val (.int (1 : Int32)), .val (.ref st_SHARED), .val (.ref st_EXCLUSIVE), .val (.int (1 : Int32)), .val (.int (own_b (decide (st_SHARED = st_EXCLUSIVE ∨ st_EXCLUSIVE = st_EXCLUSIVE)))), .val (.int (own_b (decide (st_EXCLUSIVE = st_EXCLUSIVE ∨ st_SHARED = st_EXCLUSIVE))))] [(.int (1 : Int32))])) _
        exact retN X50 hx (t := .boolean) Bd.returns (by simp) (hb hby at_108) hr
      · show own_Q0 Z xx yy st_SHARED st_EXCLUSIVE h0 n0 _ T50.heap _
        rw [eq48]
        exact ⟨rfl, N0⟩
  · skip
    have S57 : ∀ t, Steps p.tables e below (s₁.setTop (mkF m 15 #[.val (.int xx), .val (.int yy), .val (.int (1 : Int32)), .unset, .unset, .unset, .unset, .unset, .unset] [(.int (yy &&& (1 : Int32)))])) t → Steps p.tables e below (s₁.setTop (entryFrame m #[(.int xx), (.int yy)] maxLocals)) t := fun t kt => by
      refine S1 t ?_
      show Steps p.tables e below (s₁.setTop (mkF m 3 #[.val (.int xx), .val (.int yy), .unset, .unset, .unset, .unset, .unset, .unset, .unset] [(.int (xx &&& (1 : Int32)))])) t
      refine XS.ifNo X0.here hx rfl (hb hby at_3) rfl ((if0 _ _).trans (feq hc3).1) ?_
      show Steps p.tables e below (s₁.setTop (mkF m 6 #[.val (.int xx), .val (.int yy), .unset, .unset, .unset, .unset, .unset, .unset, .unset] [])) t
      refine XS.iconst X0.here hx rfl (hb hby at_6) ?_
      show Steps p.tables e below (s₁.setTop (mkF m 7 #[.val (.int xx), .val (.int yy), .unset, .unset, .unset, .unset, .unset, .unset, .unset] [(.int (1 : Int32))])) t
      refine XS.goto X0.here hx rfl (pc0 := 7) (pc' := 11) rfl (hb hby at_7) (by decide) (by decide) ?_
      show Steps p.tables e below (s₁.setTop (mkF m 11 #[.val (.int xx), .val (.int yy), .unset, .unset, .unset, .unset, .unset, .unset, .unset] [(.int (1 : Int32))])) t
      refine XS.istoreN X0.here hx rfl (hb hby at_11) rfl (l' := #[.val (.int xx), .val (.int yy), .val (.int (1 : Int32)), .unset, .unset, .unset, .unset, .unset, .unset]) rfl ?_
      show Steps p.tables e below (s₁.setTop (mkF m 12 #[.val (.int xx), .val (.int yy), .val (.int (1 : Int32)), .unset, .unset, .unset, .unset, .unset, .unset] [])) t
      refine XS.iloadN X0.here hx rfl (hb hby at_12) rfl ?_
      show Steps p.tables e below (s₁.setTop (mkF m 13 #[.val (.int xx), .val (.int yy), .val (.int (1 : Int32)), .unset, .unset, .unset, .unset, .unset, .unset] [(.int yy)])) t
      refine XS.iconst X0.here hx rfl (hb hby at_13) ?_
      show Steps p.tables e below (s₁.setTop (mkF m 14 #[.val (.int xx), .val (.int yy), .val (.int (1 : Int32)), .unset, .unset, .unset, .unset, .unset, .unset] [(.int (1 : Int32)), (.int yy)])) t
      refine XS.iand X0.here hx rfl (hb hby at_14) rfl ?_
      exact kt
    by_cases hc15 : (yy &&& (1 : Int32)) = (0 : Int32)
    · skip
      have S58 : ∀ t, Steps p.tables e below (s₁.setTop (mkF m 25 #[.val (.int xx), .val (.int yy), .val (.int (1 : Int32)), .val (.int (0 : Int32)), .unset, .unset, .unset, .unset, .unset] [(.int (1 : Int32))])) t → Steps p.tables e below (s₁.setTop (entryFrame m #[(.int xx), (.int yy)] maxLocals)) t := fun t kt => by
        refine S57 t ?_
        show Steps p.tables e below (s₁.setTop (mkF m 15 #[.val (.int xx), .val (.int yy), .val (.int (1 : Int32)), .unset, .unset, .unset, .unset, .unset, .unset] [(.int (yy &&& (1 : Int32)))])) t
        refine XS.ifYes X0.here hx rfl (pc0 := 15) (pc' := 22) rfl (hb hby at_15) rfl ((if0 _ _).trans (teq hc15).1) (by decide) (by decide) ?_
        show Steps p.tables e below (s₁.setTop (mkF m 22 #[.val (.int xx), .val (.int yy), .val (.int (1 : Int32)), .unset, .unset, .unset, .unset, .unset, .unset] [])) t
        refine XS.iconst X0.here hx rfl (hb hby at_22) ?_
        show Steps p.tables e below (s₁.setTop (mkF m 23 #[.val (.int xx), .val (.int yy), .val (.int (1 : Int32)), .unset, .unset, .unset, .unset, .unset, .unset] [(.int (0 : Int32))])) t
        refine XS.istoreN X0.here hx rfl (hb hby at_23) rfl (l' := #[.val (.int xx), .val (.int yy), .val (.int (1 : Int32)), .val (.int (0 : Int32)), .unset, .unset, .unset, .unset, .unset]) rfl ?_
        show Steps p.tables e below (s₁.setTop (mkF m 24 #[.val (.int xx), .val (.int yy), .val (.int (1 : Int32)), .val (.int (0 : Int32)), .unset, .unset, .unset, .unset, .unset] [])) t
        refine XS.iloadN X0.here hx rfl (hb hby at_24) rfl ?_
        exact kt
      have hc25_59 : ¬ ((1 : Int32) = (0 : Int32)) := by decide
      have S60 : ∀ t, Steps p.tables e below (s₁.setTop (mkF m 28 #[.val (.int xx), .val (.int yy), .val (.int (1 : Int32)), .val (.int (0 : Int32)), .unset, .unset, .unset, .unset, .unset] [])) t → Steps p.tables e below (s₁.setTop (entryFrame m #[(.int xx), (.int yy)] maxLocals)) t := fun t kt => by
        refine S58 t ?_
        show Steps p.tables e below (s₁.setTop (mkF m 25 #[.val (.int xx), .val (.int yy), .val (.int (1 : Int32)), .val (.int (0 : Int32)), .unset, .unset, .unset, .unset, .unset] [(.int (1 : Int32))])) t
        refine XS.ifNo X0.here hx rfl (hb hby at_25) rfl ((if0 _ _).trans (feq hc25_59).1) ?_
        exact kt
      obtain ⟨T61, X61, e61, st61⟩ := getS2 X0 hx hZ hown (host := "") (Or.inl (hw _ (List.mem_of_getElem? (i := 3) rfl))) Via.refl e0 S_EXCLUSIVE (g := (mkF m 28 #[.val (.int xx), .val (.int yy), .val (.int (1 : Int32)), .val (.int (0 : Int32)), .unset, .unset, .unset, .unset, .unset] [])) rfl (hb hby at_28)
      have S62 : ∀ t, Steps p.tables e below (T61.setTop (mkF m 31 #[.val (.int xx), .val (.int yy), .val (.int (1 : Int32)), .val (.int (0 : Int32)), .unset, .unset, .unset, .unset, .unset] [(.ref st_EXCLUSIVE)])) t → Steps p.tables e below (s₁.setTop (entryFrame m #[(.int xx), (.int yy)] maxLocals)) t := fun t kt => S60 t (st61 _ kt)
      have S63 : ∀ t, Steps p.tables e below (T61.setTop (mkF m 40 #[.val (.int xx), .val (.int yy), .val (.int (1 : Int32)), .val (.int (0 : Int32)), .val (.ref st_EXCLUSIVE), .unset, .unset, .unset, .unset] [(.int (0 : Int32))])) t → Steps p.tables e below (s₁.setTop (entryFrame m #[(.int xx), (.int yy)] maxLocals)) t := fun t kt => by
        refine S62 t ?_
        show Steps p.tables e below (T61.setTop (mkF m 31 #[.val (.int xx), .val (.int yy), .val (.int (1 : Int32)), .val (.int (0 : Int32)), .unset, .unset, .unset, .unset, .unset] [(.ref st_EXCLUSIVE)])) t
        refine XS.goto X61.here hx rfl (pc0 := 31) (pc' := 37) rfl (hb hby at_31) (by decide) (by decide) ?_
        show Steps p.tables e below (T61.setTop (mkF m 37 #[.val (.int xx), .val (.int yy), .val (.int (1 : Int32)), .val (.int (0 : Int32)), .unset, .unset, .unset, .unset, .unset] [(.ref st_EXCLUSIVE)])) t
        refine XS.astore X61.here hx rfl (hb hby at_37) rfl rfl (l' := #[.val (.int xx), .val (.int yy), .val (.int (1 : Int32)), .val (.int (0 : Int32)), .val (.ref st_EXCLUSIVE), .unset, .unset, .unset, .unset]) rfl ?_
        show Steps p.tables e below (T61.setTop (mkF m 39 #[.val (.int xx), .val (.int yy), .val (.int (1 : Int32)), .val (.int (0 : Int32)), .val (.ref st_EXCLUSIVE), .unset, .unset, .unset, .unset] [])) t
        refine XS.iloadN X61.here hx rfl (hb hby at_39) rfl ?_
        exact kt
      have hc40_64 : (0 : Int32) = (0 : Int32) := by decide
      have S65 : ∀ t, Steps p.tables e below (T61.setTop (mkF m 49 #[.val (.int xx), .val (.int yy), .val (.int (1 : Int32)), .val (.int (0 : Int32)), .val (.ref st_EXCLUSIVE), .unset, .unset, .unset, .unset] [])) t → Steps p.tables e below (s₁.setTop (entryFrame m #[(.int xx), (.int yy)] maxLocals)) t := fun t kt => by
        refine S63 t ?_
        show Steps p.tables e below (T61.setTop (mkF m 40 #[.val (.int xx), .val (.int yy), .val (.int (1 : Int32)), .val (.int (0 : Int32)), .val (.ref st_EXCLUSIVE), .unset, .unset, .unset, .unset] [(.int (0 : Int32))])) t
        refine XS.ifYes X61.here hx rfl (pc0 := 40) (pc' := 49) rfl (hb hby at_40) rfl ((if0 _ _).trans (teq hc40_64).1) (by decide) (by decide) ?_
        exact kt
      obtain ⟨T66, X66, e66, st66⟩ := getS2 X61 hx hZ hown (host := "") (Or.inl (hw _ (List.mem_of_getElem? (i := 0) rfl))) Via.refl e61 S_SHARED (g := (mkF m 49 #[.val (.int xx), .val (.int yy), .val (.int (1 : Int32)), .val (.int (0 : Int32)), .val (.ref st_EXCLUSIVE), .unset, .unset, .unset, .unset] [])) rfl (hb hby at_49)
      have S67 : ∀ t, Steps p.tables e below (T66.setTop (mkF m 52 #[.val (.int xx), .val (.int yy), .val (.int (1 : Int32)), .val (.int (0 : Int32)), .val (.ref st_EXCLUSIVE), .unset, .unset, .unset, .unset] [(.ref st_SHARED)])) t → Steps p.tables e below (s₁.setTop (entryFrame m #[(.int xx), (.int yy)] maxLocals)) t := fun t kt => S65 t (st66 _ kt)
      have S68 : ∀ t, Steps p.tables e below (T66.setTop (mkF m 55 #[.val (.int xx), .val (.int yy), .val (.int (1 : Int32)), .val (.int (0 : Int32)), .val (.ref st_EXCLUSIVE), .val (.ref st_SHARED), .unset, .unset, .unset] [(.int (1 : Int32))])) t → Steps p.tables e below (s₁.setTop (entryFrame m #[(.int xx), (.int yy)] maxLocals)) t := fun t kt => by
        refine S67 t ?_
        show Steps p.tables e below (T66.setTop (mkF m 52 #[.val (.int xx), .val (.int yy), .val (.int (1 : Int32)), .val (.int (0 : Int32)), .val (.ref st_EXCLUSIVE), .unset, .unset, .unset, .unset] [(.ref st_SHARED)])) t
        refine XS.astore X66.here hx rfl (hb hby at_52) rfl rfl (l' := #[.val (.int xx), .val (.int yy), .val (.int (1 : Int32)), .val (.int (0 : Int32)), .val (.ref st_EXCLUSIVE), .val (.ref st_SHARED), .unset, .unset, .unset]) rfl ?_
        show Steps p.tables e below (T66.setTop (mkF m 54 #[.val (.int xx), .val (.int yy), .val (.int (1 : Int32)), .val (.int (0 : Int32)), .val (.ref st_EXCLUSIVE), .val (.ref st_SHARED), .unset, .unset, .unset] [])) t
        refine XS.iloadN X66.here hx rfl (hb hby at_54) rfl ?_
        exact kt
      have hc55_69 : ¬ ((1 : Int32) = (0 : Int32)) := by decide
      have S71 : ∀ t, Steps p.tables e below (T66.setTop (mkF m 75 #[.val (.int xx), .val (.int yy), .val (.int (1 : Int32)), .val (.int (0 : Int32)), .val (.ref st_EXCLUSIVE), .val (.ref st_SHARED), .val (.int (1 : Int32)), .unset, .unset] [(.ref st_SHARED), (.ref st_EXCLUSIVE)])) t → Steps p.tables e below (s₁.setTop (entryFrame m #[(.int xx), (.int yy)] maxLocals)) t := fun t kt => by
        refine S68 t ?_
        show Steps p.tables e below (T66.setTop (mkF m 55 #[.val (.int xx), .val (.int yy), .val (.int (1 : Int32)), .val (.int (0 : Int32)), .val (.ref st_EXCLUSIVE), .val (.ref st_SHARED), .unset, .unset, .unset] [(.int (1 : Int32))])) t
        refine XS.ifYes X66.here hx rfl (pc0 := 55) (pc' := 68) rfl (hb hby at_55) rfl ((if0 _ _).trans (feq hc55_69).2) (by decide) (by decide) ?_
        show Steps p.tables e below (T66.setTop (mkF m 68 #[.val (.int xx), .val (.int yy), .val (.int (1 : Int32)), .val (.int (0 : Int32)), .val (.ref st_EXCLUSIVE), .val (.ref st_SHARED), .unset, .unset, .unset] [])) t
        refine XS.iconst X66.here hx rfl (hb hby at_68) ?_
        show Steps p.tables e below (T66.setTop (mkF m 69 #[.val (.int xx), .val (.int yy), .val (.int (1 : Int32)), .val (.int (0 : Int32)), .val (.ref st_EXCLUSIVE), .val (.ref st_SHARED), .unset, .unset, .unset] [(.int (1 : Int32))])) t
        refine XS.istore X66.here hx rfl (hb hby at_69) rfl (l' := #[.val (.int xx), .val (.int yy), .val (.int (1 : Int32)), .val (.int (0 : Int32)), .val (.ref st_EXCLUSIVE), .val (.ref st_SHARED), .val (.int (1 : Int32)), .unset, .unset]) rfl ?_
        show Steps p.tables e below (T66.setTop (mkF m 71 #[.val (.int xx), .val (.int yy), .val (.int (1 : Int32)), .val (.int (0 : Int32)), .val (.ref st_EXCLUSIVE), .val (.ref st_SHARED), .val (.int (1 : Int32)), .unset, .unset] [])) t
        refine XS.aload X66.here hx rfl (hb hby at_71) rfl rfl ?_
        show Steps p.tables e below (T66.setTop (mkF m 73 #[.val (.int xx), .val (.int yy), .val (.int (1 : Int32)), .val (.int (0 : Int32)), .val (.ref st_EXCLUSIVE), .val (.ref st_SHARED), .val (.int (1 : Int32)), .unset, .unset] [(.ref st_EXCLUSIVE)])) t
        refine XS.aload X66.here hx rfl (hb hby at_73) rfl rfl ?_
        exact kt
      obtain ⟨cq72, kq72, q72a, q72b, q72c⟩ := isOf hZ e66 E_EXCLUSIVE
      obtain ⟨_, _, ⟨T72, L72, k72, n72⟩, -, X72, ⟨Lc72, hQ72, l72, y72, z72⟩, st72⟩ := X66.virtualBack hx (y := (⟨"com/example/nestwarden/nestwarden/node/RowLocks$Mode", "conflicts", "(Lcom/example/nestwarden/nestwarden/node/RowLocks$Mode;)Z"⟩ : MethodName)) (z := (⟨"com/example/nestwarden/nestwarden/node/RowLocks$Mode", "conflicts", "(Lcom/example/nestwarden/nestwarden/node/RowLocks$Mode;)Z"⟩ : MethodName)) hown (mvT hZ (hw _ (List.mem_of_getElem? (i := 5) rfl))) (mvT hZ (hw _ (List.mem_of_getElem? (i := 6) rfl))) (notFace_of_selects (args := #[]) (mvT hZ (hw _ (List.mem_of_getElem? (i := 8) rfl)))) (mvT hZ (hw _ (List.mem_of_getElem? (i := 8) rfl))) (mvT hZ (hw _ (List.mem_of_getElem? (i := 7) rfl))) (by decide) (backOf (W := 0) (own_rm1 l Z a0 hw [] (st_EXCLUSIVE) (st_SHARED) (st_EXCLUSIVE) h0 n0 Z0 S_EXCLUSIVE) hZ (hw _ (List.mem_of_getElem? (i := 9) rfl)) (hw _ (List.mem_of_getElem? (i := 1) rfl)) (by decide) (by decide)) q72a q72c (g := (mkF m 75 #[.val (.int xx), .val (.int yy), .val (.int (1 : Int32)), .val (.int (0 : Int32)), .val (.ref st_EXCLUSIVE), .val (.ref st_SHARED), .val (.int (1 : Int32)), .unset, .unset] [(.ref st_SHARED), (.ref st_EXCLUSIVE)])) rfl (by rw [hml]; rfl) (Steps.refl _) (argsL := [(.ref st_SHARED)]) (rest := []) (lenOf own_pd0 rfl) rfl (by show 2 * 0 + _ ≤ _; exact Nat.le_of_eq rfl) (hb hby at_75) (fun _ _ => ⟨rfl, e66, (by decide : 0 + 0 ≤ _), (by decide : 0 + 0 ≤ _)⟩)
      dsimp only [Pt.U, Pt.locs, Pt.cells, Pt.slots] at X72 l72 y72 z72 st72 hQ72
      subst l72 y72 z72
      obtain ⟨rfl, rfl, eq70⟩ := hQ72
      try rw [List.append_nil] at X72
      have S73 : ∀ t, Steps p.tables e below (T72.setTop (mkF m 78 #[.val (.int xx), .val (.int yy), .val (.int (1 : Int32)), .val (.int (0 : Int32)), .val (.ref st_EXCLUSIVE), .val (.ref st_SHARED), .val (.int (1 : Int32)), .unset, .unset] [(.int (own_b (decide (st_EXCLUSIVE = st_EXCLUSIVE ∨ st_SHARED = st_EXCLUSIVE))))])) t → Steps p.tables e below (s₁.setTop (entryFrame m #[(.int xx), (.int yy)] maxLocals)) t := fun t kt => S71 t (st72.trans kt)
      have S75 : ∀ t, Steps p.tables e below (T72.setTop (mkF m 84 #[.val (.int xx), .val (.int yy), .val (.int (1 : Int32)), .val (.int (0 : Int32)), .val (.ref st_EXCLUSIVE), .val (.ref st_SHARED), .val (.int (1 : Int32)), .val (.int (own_b (decide (st_EXCLUSIVE = st_EXCLUSIVE ∨ st_SHARED = st_EXCLUSIVE)))), .unset] [(.ref st_EXCLUSIVE), (.ref st_SHARED)])) t → Steps p.tables e below (s₁.setTop (entryFrame m #[(.int xx), (.int yy)] maxLocals)) t := fun t kt => by
        refine S73 t ?_
        show Steps p.tables e below (T72.setTop (mkF m 78 #[.val (.int xx), .val (.int yy), .val (.int (1 : Int32)), .val (.int (0 : Int32)), .val (.ref st_EXCLUSIVE), .val (.ref st_SHARED), .val (.int (1 : Int32)), .unset, .unset] [(.int (own_b (decide (st_EXCLUSIVE = st_EXCLUSIVE ∨ st_SHARED = st_EXCLUSIVE))))])) t
        refine XS.istore X72.here hx rfl (hb hby at_78) rfl (l' := #[.val (.int xx), .val (.int yy), .val (.int (1 : Int32)), .val (.int (0 : Int32)), .val (.ref st_EXCLUSIVE), .val (.ref st_SHARED), .val (.int (1 : Int32)), .val (.int (own_b (decide (st_EXCLUSIVE = st_EXCLUSIVE ∨ st_SHARED = st_EXCLUSIVE)))), .unset]) rfl ?_
        show Steps p.tables e below (T72.setTop (mkF m 80 #[.val (.int xx), .val (.int yy), .val (.int (1 : Int32)), .val (.int (0 : Int32)), .val (.ref st_EXCLUSIVE), .val (.ref st_SHARED), .val (.int (1 : Int32)), .val (.int (own_b (decide (st_EXCLUSIVE = st_EXCLUSIVE ∨ st_SHARED = st_EXCLUSIVE)))), .unset] [])) t
        refine XS.aload X72.here hx rfl (hb hby at_80) rfl rfl ?_
        show Steps p.tables e below (T72.setTop (mkF m 82 #[.val (.int xx), .val (.int yy), .val (.int (1 : Int32)), .val (.int (0 : Int32)), .val (.ref st_EXCLUSIVE), .val (.ref st_SHARED), .val (.int (1 : Int32)), .val (.int (own_b (decide (st_EXCLUSIVE = st_EXCLUSIVE ∨ st_SHARED = st_EXCLUSIVE)))), .unset] [(.ref st_SHARED)])) t
        refine XS.aload X72.here hx rfl (hb hby at_82) rfl rfl ?_
        exact kt
      obtain ⟨cq76, kq76, q76a, q76b, q76c⟩ := isOf hZ eq70 E_SHARED
      obtain ⟨_, _, ⟨T76, L76, k76, n76⟩, -, X76, ⟨Lc76, hQ76, l76, y76, z76⟩, st76⟩ := X72.virtualBack hx (y := (⟨"com/example/nestwarden/nestwarden/node/RowLocks$Mode", "conflicts", "(Lcom/example/nestwarden/nestwarden/node/RowLocks$Mode;)Z"⟩ : MethodName)) (z := (⟨"com/example/nestwarden/nestwarden/node/RowLocks$Mode", "conflicts", "(Lcom/example/nestwarden/nestwarden/node/RowLocks$Mode;)Z"⟩ : MethodName)) hown (mvT hZ (hw _ (List.mem_of_getElem? (i := 5) rfl))) (mvT hZ (hw _ (List.mem_of_getElem? (i := 6) rfl))) (notFace_of_selects (args := #[]) (mvT hZ (hw _ (List.mem_of_getElem? (i := 8) rfl)))) (mvT hZ (hw _ (List.mem_of_getElem? (i := 8) rfl))) (mvT hZ (hw _ (List.mem_of_getElem? (i := 7) rfl))) (by decide) (backOf (W := 0) (own_rm1 l Z a0 hw [] (st_SHARED) (st_EXCLUSIVE) (st_EXCLUSIVE) h0 n0 Z0 S_EXCLUSIVE) hZ (hw _ (List.mem_of_getElem? (i := 9) rfl)) (hw _ (List.mem_of_getElem? (i := 1) rfl)) (by decide) (by decide)) q76a q76c (g := (mkF m 84 #[.val (.int xx), .val (.int yy), .val (.int (1 : Int32)), .val (.int (0 : Int32)), .val (.ref st_EXCLUSIVE), .val (.ref st_SHARED), .val (.int (1 : Int32)), .val (.int (own_b (decide (st_EXCLUSIVE = st_EXCLUSIVE ∨ st_SHARED = st_EXCLUSIVE)))), .unset] [(.ref st_EXCLUSIVE), (.ref st_SHARED)])) rfl (by rw [hml]; rfl) (Steps.refl _) (argsL := [(.ref st_EXCLUSIVE)]) (rest := []) (lenOf own_pd0 rfl) rfl (by show 2 * 0 + _ ≤ _; exact Nat.le_of_eq rfl) (hb hby at_84) (fun _ _ => ⟨rfl, eq70, (by decide : 0 + 0 ≤ _), (by decide : 0 + 0 ≤ _)⟩)
      dsimp only [Pt.U, Pt.locs, Pt.cells, Pt.slots] at X76 l76 y76 z76 st76 hQ76
      subst l76 y76 z76
      obtain ⟨rfl, rfl, eq74⟩ := hQ76
      try rw [List.append_nil] at X76
      have S77 : ∀ t, Steps p.tables e below (T76.setTop (mkF m 87 #[.val (.int xx), .val (.int yy), .val (.int (1 : Int32)), .val (.int (0 : Int32)), .val (.ref st_EXCLUSIVE), .val (.ref st_SHARED), .val (.int (1 : Int32)), .val (.int (own_b (decide (st_EXCLUSIVE = st_EXCLUSIVE ∨ st_SHARED = st_EXCLUSIVE)))), .unset] [(.int (own_b (decide (st_SHARED = st_EXCLUSIVE ∨ st_EXCLUSIVE = st_EXCLUSIVE))))])) t → Steps p.tables e below (s₁.setTop (entryFrame m #[(.int xx), (.int yy)] maxLocals)) t := fun t kt => S75 t (st76.trans kt)
      have S78 : ∀ t, Steps p.tables e below (T76.setTop (mkF m 93 #[.val (.int xx), .val (.int yy), .val (.int (1 : Int32)), .val (.int (0 : Int32)), .val (.ref st_EXCLUSIVE), .val (.ref st_SHARED), .val (.int (1 : Int32)), .val (.int (own_b (decide (st_EXCLUSIVE = st_EXCLUSIVE ∨ st_SHARED = st_EXCLUSIVE)))), .val (.int (own_b (decide (st_SHARED = st_EXCLUSIVE ∨ st_EXCLUSIVE = st_EXCLUSIVE))))] [(.int (1 : Int32)), (.int (own_b (decide (st_EXCLUSIVE = st_EXCLUSIVE ∨ st_SHARED = st_EXCLUSIVE))))])) t → Steps p.tables e below (s₁.setTop (entryFrame m #[(.int xx), (.int yy)] maxLocals)) t := fun t kt => by
        refine S77 t ?_
        show Steps p.tables e below (T76.setTop (mkF m 87 #[.val (.int xx), .val (.int yy), .val (.int (1 : Int32)), .val (.int (0 : Int32)), .val (.ref st_EXCLUSIVE), .val (.ref st_SHARED), .val (.int (1 : Int32)), .val (.int (own_b (decide (st_EXCLUSIVE = st_EXCLUSIVE ∨ st_SHARED = st_EXCLUSIVE)))), .unset] [(.int (own_b (decide (st_SHARED = st_EXCLUSIVE ∨ st_EXCLUSIVE = st_EXCLUSIVE))))])) t
        refine XS.istore X76.here hx rfl (hb hby at_87) rfl (l' := #[.val (.int xx), .val (.int yy), .val (.int (1 : Int32)), .val (.int (0 : Int32)), .val (.ref st_EXCLUSIVE), .val (.ref st_SHARED), .val (.int (1 : Int32)), .val (.int (own_b (decide (st_EXCLUSIVE = st_EXCLUSIVE ∨ st_SHARED = st_EXCLUSIVE)))), .val (.int (own_b (decide (st_SHARED = st_EXCLUSIVE ∨ st_EXCLUSIVE = st_EXCLUSIVE))))]) rfl ?_
        show Steps p.tables e below (T76.setTop (mkF m 89 #[.val (.int xx), .val (.int yy), .val (.int (1 : Int32)), .val (.int (0 : Int32)), .val (.ref st_EXCLUSIVE), .val (.ref st_SHARED), .val (.int (1 : Int32)), .val (.int (own_b (decide (st_EXCLUSIVE = st_EXCLUSIVE ∨ st_SHARED = st_EXCLUSIVE)))), .val (.int (own_b (decide (st_SHARED = st_EXCLUSIVE ∨ st_EXCLUSIVE = st_EXCLUSIVE))))] [])) t
        refine XS.iload X76.here hx rfl (hb hby at_89) rfl ?_
        show Steps p.tables e below (T76.setTop (mkF m 91 #[.val (.int xx), .val (.int yy), .val (.int (1 : Int32)), .val (.int (0 : Int32)), .val (.ref st_EXCLUSIVE), .val (.ref st_SHARED), .val (.int (1 : Int32)), .val (.int (own_b (decide (st_EXCLUSIVE = st_EXCLUSIVE ∨ st_SHARED = st_EXCLUSIVE)))), .val (.int (own_b (decide (st_SHARED = st_EXCLUSIVE ∨ st_EXCLUSIVE = st_EXCLUSIVE))))] [(.int (own_b (decide (st_EXCLUSIVE = st_EXCLUSIVE ∨ st_SHARED = st_EXCLUSIVE))))])) t
        refine XS.iload X76.here hx rfl (hb hby at_91) rfl ?_
        exact kt
      have hc93_79 : (own_b (decide (st_EXCLUSIVE = st_EXCLUSIVE ∨ st_SHARED = st_EXCLUSIVE))) = (1 : Int32) := by simp [own_b, hne]
      have S80 : ∀ t, Steps p.tables e below (T76.setTop (mkF m 100 #[.val (.int xx), .val (.int yy), .val (.int (1 : Int32)), .val (.int (0 : Int32)), .val (.ref st_EXCLUSIVE), .val (.ref st_SHARED), .val (.int (1 : Int32)), .val (.int (own_b (decide (st_EXCLUSIVE = st_EXCLUSIVE ∨ st_SHARED = st_EXCLUSIVE)))), .val (.int (own_b (decide (st_SHARED = st_EXCLUSIVE ∨ st_EXCLUSIVE = st_EXCLUSIVE))))] [(.int (1 : Int32)), (.int (own_b (decide (st_SHARED = st_EXCLUSIVE ∨ st_EXCLUSIVE = st_EXCLUSIVE))))])) t → Steps p.tables e below (s₁.setTop (entryFrame m #[(.int xx), (.int yy)] maxLocals)) t := fun t kt => by
        refine S78 t ?_
        show Steps p.tables e below (T76.setTop (mkF m 93 #[.val (.int xx), .val (.int yy), .val (.int (1 : Int32)), .val (.int (0 : Int32)), .val (.ref st_EXCLUSIVE), .val (.ref st_SHARED), .val (.int (1 : Int32)), .val (.int (own_b (decide (st_EXCLUSIVE = st_EXCLUSIVE ∨ st_SHARED = st_EXCLUSIVE)))), .val (.int (own_b (decide (st_SHARED = st_EXCLUSIVE ∨ st_EXCLUSIVE = st_EXCLUSIVE))))] [(.int (1 : Int32)), (.int (own_b (decide (st_EXCLUSIVE = st_EXCLUSIVE ∨ st_SHARED = st_EXCLUSIVE))))])) t
        refine XS.icmpNo X76.here hx rfl (hb hby at_93) rfl (teq hc93_79).2 ?_
        show Steps p.tables e below (T76.setTop (mkF m 96 #[.val (.int xx), .val (.int yy), .val (.int (1 : Int32)), .val (.int (0 : Int32)), .val (.ref st_EXCLUSIVE), .val (.ref st_SHARED), .val (.int (1 : Int32)), .val (.int (own_b (decide (st_EXCLUSIVE = st_EXCLUSIVE ∨ st_SHARED = st_EXCLUSIVE)))), .val (.int (own_b (decide (st_SHARED = st_EXCLUSIVE ∨ st_EXCLUSIVE = st_EXCLUSIVE))))] [])) t
        refine XS.iload X76.here hx rfl (hb hby at_96) rfl ?_
        show Steps p.tables e below (T76.setTop (mkF m 98 #[.val (.int xx), .val (.int yy), .val (.int (1 : Int32)), .val (.int (0 : Int32)), .val (.ref st_EXCLUSIVE), .val (.ref st_SHARED), .val (.int (1 : Int32)), .val (.int (own_b (decide (st_EXCLUSIVE = st_EXCLUSIVE ∨ st_SHARED = st_EXCLUSIVE)))), .val (.int (own_b (decide (st_SHARED = st_EXCLUSIVE ∨ st_EXCLUSIVE = st_EXCLUSIVE))))] [(.int (own_b (decide (st_SHARED = st_EXCLUSIVE ∨ st_EXCLUSIVE = st_EXCLUSIVE))))])) t
        refine XS.iload X76.here hx rfl (hb hby at_98) rfl ?_
        exact kt
      have hc100_81 : (own_b (decide (st_SHARED = st_EXCLUSIVE ∨ st_EXCLUSIVE = st_EXCLUSIVE))) = (1 : Int32) := by simp [own_b, hne]
      have S82 : ∀ t, Steps p.tables e below (T76.setTop (mkF m 108 #[.val (.int xx), .val (.int yy), .val (.int (1 : Int32)), .val (.int (0 : Int32)), .val (.ref st_EXCLUSIVE), .val (.ref st_SHARED), .val (.int (1 : Int32)), .val (.int (own_b (decide (st_EXCLUSIVE = st_EXCLUSIVE ∨ st_SHARED = st_EXCLUSIVE)))), .val (.int (own_b (decide (st_SHARED = st_EXCLUSIVE ∨ st_EXCLUSIVE = st_EXCLUSIVE))))] [(.int (1 : Int32))])) t → Steps p.tables e below (s₁.setTop (entryFrame m #[(.int xx), (.int yy)] maxLocals)) t := fun t kt => by
        refine S80 t ?_
        show Steps p.tables e below (T76.setTop (mkF m 100 #[.val (.int xx), .val (.int yy), .val (.int (1 : Int32)), .val (.int (0 : Int32)), .val (.ref st_EXCLUSIVE), .val (.ref st_SHARED), .val (.int (1 : Int32)), .val (.int (own_b (decide (st_EXCLUSIVE = st_EXCLUSIVE ∨ st_SHARED = st_EXCLUSIVE)))), .val (.int (own_b (decide (st_SHARED = st_EXCLUSIVE ∨ st_EXCLUSIVE = st_EXCLUSIVE))))] [(.int (1 : Int32)), (.int (own_b (decide (st_SHARED = st_EXCLUSIVE ∨ st_EXCLUSIVE = st_EXCLUSIVE))))])) t
        refine XS.icmpNo X76.here hx rfl (hb hby at_100) rfl (teq hc100_81).2 ?_
        show Steps p.tables e below (T76.setTop (mkF m 103 #[.val (.int xx), .val (.int yy), .val (.int (1 : Int32)), .val (.int (0 : Int32)), .val (.ref st_EXCLUSIVE), .val (.ref st_SHARED), .val (.int (1 : Int32)), .val (.int (own_b (decide (st_EXCLUSIVE = st_EXCLUSIVE ∨ st_SHARED = st_EXCLUSIVE)))), .val (.int (own_b (decide (st_SHARED = st_EXCLUSIVE ∨ st_EXCLUSIVE = st_EXCLUSIVE))))] [])) t
        refine XS.iconst X76.here hx rfl (hb hby at_103) ?_
        show Steps p.tables e below (T76.setTop (mkF m 104 #[.val (.int xx), .val (.int yy), .val (.int (1 : Int32)), .val (.int (0 : Int32)), .val (.ref st_EXCLUSIVE), .val (.ref st_SHARED), .val (.int (1 : Int32)), .val (.int (own_b (decide (st_EXCLUSIVE = st_EXCLUSIVE ∨ st_SHARED = st_EXCLUSIVE)))), .val (.int (own_b (decide (st_SHARED = st_EXCLUSIVE ∨ st_EXCLUSIVE = st_EXCLUSIVE))))] [(.int (1 : Int32))])) t
        refine XS.goto X76.here hx rfl (pc0 := 104) (pc' := 108) rfl (hb hby at_104) (by decide) (by decide) ?_
        exact kt
      obtain ⟨fs, hr, hrun, hended, hW, hsame⟩ := X76.leave (v := some (.int (nar .boolean (1 : Int32)))) (fun h => by rw [Bd.returns] at h; cases h)
      refine ⟨_, _, S82 _ ?_, hrun, hended, _, _, rfl, ?_, ⟨_, rfl⟩, hW, hsame.mono (by decide) (by decide)⟩
      · show Steps p.tables e below (T76.setTop (mkF m 108 #[.val (.int xx), .val (.int yy), .val (.int (1 : Int32)), .val (.int (0 : Int32)), .val (.ref st_EXCLUSIVE), .val (.ref st_SHARED), .val (.int (1 : Int32)), .val (.int (own_b (decide (st_EXCLUSIVE = st_EXCLUSIVE ∨ st_SHARED = st_EXCLUSIVE)))), .val (.int (own_b (decide (st_SHARED = st_EXCLUSIVE ∨ st_EXCLUSIVE = st_EXCLUSIVE))))] [(.int (1 : Int32))])) _
        exact retN X76 hx (t := .boolean) Bd.returns (by simp) (hb hby at_108) hr
      · show own_Q0 Z xx yy st_SHARED st_EXCLUSIVE h0 n0 _ T76.heap _
        rw [eq74]
        exact ⟨rfl, N0⟩
    · skip
      have S83 : ∀ t, Steps p.tables e below (s₁.setTop (mkF m 25 #[.val (.int xx), .val (.int yy), .val (.int (1 : Int32)), .val (.int (1 : Int32)), .unset, .unset, .unset, .unset, .unset] [(.int (1 : Int32))])) t → Steps p.tables e below (s₁.setTop (entryFrame m #[(.int xx), (.int yy)] maxLocals)) t := fun t kt => by
        refine S57 t ?_
        show Steps p.tables e below (s₁.setTop (mkF m 15 #[.val (.int xx), .val (.int yy), .val (.int (1 : Int32)), .unset, .unset, .unset, .unset, .unset, .unset] [(.int (yy &&& (1 : Int32)))])) t
        refine XS.ifNo X0.here hx rfl (hb hby at_15) rfl ((if0 _ _).trans (feq hc15).1) ?_
        show Steps p.tables e below (s₁.setTop (mkF m 18 #[.val (.int xx), .val (.int yy), .val (.int (1 : Int32)), .unset, .unset, .unset, .unset, .unset, .unset] [])) t
        refine XS.iconst X0.here hx rfl (hb hby at_18) ?_
        show Steps p.tables e below (s₁.setTop (mkF m 19 #[.val (.int xx), .val (.int yy), .val (.int (1 : Int32)), .unset, .unset, .unset, .unset, .unset, .unset] [(.int (1 : Int32))])) t
        refine XS.goto X0.here hx rfl (pc0 := 19) (pc' := 23) rfl (hb hby at_19) (by decide) (by decide) ?_
        show Steps p.tables e below (s₁.setTop (mkF m 23 #[.val (.int xx), .val (.int yy), .val (.int (1 : Int32)), .unset, .unset, .unset, .unset, .unset, .unset] [(.int (1 : Int32))])) t
        refine XS.istoreN X0.here hx rfl (hb hby at_23) rfl (l' := #[.val (.int xx), .val (.int yy), .val (.int (1 : Int32)), .val (.int (1 : Int32)), .unset, .unset, .unset, .unset, .unset]) rfl ?_
        show Steps p.tables e below (s₁.setTop (mkF m 24 #[.val (.int xx), .val (.int yy), .val (.int (1 : Int32)), .val (.int (1 : Int32)), .unset, .unset, .unset, .unset, .unset] [])) t
        refine XS.iloadN X0.here hx rfl (hb hby at_24) rfl ?_
        exact kt
      have hc25_84 : ¬ ((1 : Int32) = (0 : Int32)) := by decide
      have S85 : ∀ t, Steps p.tables e below (s₁.setTop (mkF m 28 #[.val (.int xx), .val (.int yy), .val (.int (1 : Int32)), .val (.int (1 : Int32)), .unset, .unset, .unset, .unset, .unset] [])) t → Steps p.tables e below (s₁.setTop (entryFrame m #[(.int xx), (.int yy)] maxLocals)) t := fun t kt => by
        refine S83 t ?_
        show Steps p.tables e below (s₁.setTop (mkF m 25 #[.val (.int xx), .val (.int yy), .val (.int (1 : Int32)), .val (.int (1 : Int32)), .unset, .unset, .unset, .unset, .unset] [(.int (1 : Int32))])) t
        refine XS.ifNo X0.here hx rfl (hb hby at_25) rfl ((if0 _ _).trans (feq hc25_84).1) ?_
        exact kt
      obtain ⟨T86, X86, e86, st86⟩ := getS2 X0 hx hZ hown (host := "") (Or.inl (hw _ (List.mem_of_getElem? (i := 3) rfl))) Via.refl e0 S_EXCLUSIVE (g := (mkF m 28 #[.val (.int xx), .val (.int yy), .val (.int (1 : Int32)), .val (.int (1 : Int32)), .unset, .unset, .unset, .unset, .unset] [])) rfl (hb hby at_28)
      have S87 : ∀ t, Steps p.tables e below (T86.setTop (mkF m 31 #[.val (.int xx), .val (.int yy), .val (.int (1 : Int32)), .val (.int (1 : Int32)), .unset, .unset, .unset, .unset, .unset] [(.ref st_EXCLUSIVE)])) t → Steps p.tables e below (s₁.setTop (entryFrame m #[(.int xx), (.int yy)] maxLocals)) t := fun t kt => S85 t (st86 _ kt)
      have S88 : ∀ t, Steps p.tables e below (T86.setTop (mkF m 40 #[.val (.int xx), .val (.int yy), .val (.int (1 : Int32)), .val (.int (1 : Int32)), .val (.ref st_EXCLUSIVE), .unset, .unset, .unset, .unset] [(.int (1 : Int32))])) t → Steps p.tables e below (s₁.setTop (entryFrame m #[(.int xx), (.int yy)] maxLocals)) t := fun t kt => by
        refine S87 t ?_
        show Steps p.tables e below (T86.setTop (mkF m 31 #[.val (.int xx), .val (.int yy), .val (.int (1 : Int32)), .val (.int (1 : Int32)), .unset, .unset, .unset, .unset, .unset] [(.ref st_EXCLUSIVE)])) t
        refine XS.goto X86.here hx rfl (pc0 := 31) (pc' := 37) rfl (hb hby at_31) (by decide) (by decide) ?_
        show Steps p.tables e below (T86.setTop (mkF m 37 #[.val (.int xx), .val (.int yy), .val (.int (1 : Int32)), .val (.int (1 : Int32)), .unset, .unset, .unset, .unset, .unset] [(.ref st_EXCLUSIVE)])) t
        refine XS.astore X86.here hx rfl (hb hby at_37) rfl rfl (l' := #[.val (.int xx), .val (.int yy), .val (.int (1 : Int32)), .val (.int (1 : Int32)), .val (.ref st_EXCLUSIVE), .unset, .unset, .unset, .unset]) rfl ?_
        show Steps p.tables e below (T86.setTop (mkF m 39 #[.val (.int xx), .val (.int yy), .val (.int (1 : Int32)), .val (.int (1 : Int32)), .val (.ref st_EXCLUSIVE), .unset, .unset, .unset, .unset] [])) t
        refine XS.iloadN X86.here hx rfl (hb hby at_39) rfl ?_
        exact kt
      have hc40_89 : ¬ ((1 : Int32) = (0 : Int32)) := by decide
      have S90 : ∀ t, Steps p.tables e below (T86.setTop (mkF m 43 #[.val (.int xx), .val (.int yy), .val (.int (1 : Int32)), .val (.int (1 : Int32)), .val (.ref st_EXCLUSIVE), .unset, .unset, .unset, .unset] [])) t → Steps p.tables e below (s₁.setTop (entryFrame m #[(.int xx), (.int yy)] maxLocals)) t := fun t kt => by
        refine S88 t ?_
        show Steps p.tables e below (T86.setTop (mkF m 40 #[.val (.int xx), .val (.int yy), .val (.int (1 : Int32)), .val (.int (1 : Int32)), .val (.ref st_EXCLUSIVE), .unset, .unset, .unset, .unset] [(.int (1 : Int32))])) t
        refine XS.ifNo X86.here hx rfl (hb hby at_40) rfl ((if0 _ _).trans (feq hc40_89).1) ?_
        exact kt
      obtain ⟨T91, X91, e91, st91⟩ := getS2 X86 hx hZ hown (host := "") (Or.inl (hw _ (List.mem_of_getElem? (i := 3) rfl))) Via.refl e86 S_EXCLUSIVE (g := (mkF m 43 #[.val (.int xx), .val (.int yy), .val (.int (1 : Int32)), .val (.int (1 : Int32)), .val (.ref st_EXCLUSIVE), .unset, .unset, .unset, .unset] [])) rfl (hb hby at_43)
      have S92 : ∀ t, Steps p.tables e below (T91.setTop (mkF m 46 #[.val (.int xx), .val (.int yy), .val (.int (1 : Int32)), .val (.int (1 : Int32)), .val (.ref st_EXCLUSIVE), .unset, .unset, .unset, .unset] [(.ref st_EXCLUSIVE)])) t → Steps p.tables e below (s₁.setTop (entryFrame m #[(.int xx), (.int yy)] maxLocals)) t := fun t kt => S90 t (st91 _ kt)
      have S93 : ∀ t, Steps p.tables e below (T91.setTop (mkF m 55 #[.val (.int xx), .val (.int yy), .val (.int (1 : Int32)), .val (.int (1 : Int32)), .val (.ref st_EXCLUSIVE), .val (.ref st_EXCLUSIVE), .unset, .unset, .unset] [(.int (1 : Int32))])) t → Steps p.tables e below (s₁.setTop (entryFrame m #[(.int xx), (.int yy)] maxLocals)) t := fun t kt => by
        refine S92 t ?_
        show Steps p.tables e below (T91.setTop (mkF m 46 #[.val (.int xx), .val (.int yy), .val (.int (1 : Int32)), .val (.int (1 : Int32)), .val (.ref st_EXCLUSIVE), .unset, .unset, .unset, .unset] [(.ref st_EXCLUSIVE)])) t
        refine XS.goto X91.here hx rfl (pc0 := 46) (pc' := 52) rfl (hb hby at_46) (by decide) (by decide) ?_
        show Steps p.tables e below (T91.setTop (mkF m 52 #[.val (.int xx), .val (.int yy), .val (.int (1 : Int32)), .val (.int (1 : Int32)), .val (.ref st_EXCLUSIVE), .unset, .unset, .unset, .unset] [(.ref st_EXCLUSIVE)])) t
        refine XS.astore X91.here hx rfl (hb hby at_52) rfl rfl (l' := #[.val (.int xx), .val (.int yy), .val (.int (1 : Int32)), .val (.int (1 : Int32)), .val (.ref st_EXCLUSIVE), .val (.ref st_EXCLUSIVE), .unset, .unset, .unset]) rfl ?_
        show Steps p.tables e below (T91.setTop (mkF m 54 #[.val (.int xx), .val (.int yy), .val (.int (1 : Int32)), .val (.int (1 : Int32)), .val (.ref st_EXCLUSIVE), .val (.ref st_EXCLUSIVE), .unset, .unset, .unset] [])) t
        refine XS.iloadN X91.here hx rfl (hb hby at_54) rfl ?_
        exact kt
      have hc55_94 : ¬ ((1 : Int32) = (0 : Int32)) := by decide
      have S96 : ∀ t, Steps p.tables e below (T91.setTop (mkF m 75 #[.val (.int xx), .val (.int yy), .val (.int (1 : Int32)), .val (.int (1 : Int32)), .val (.ref st_EXCLUSIVE), .val (.ref st_EXCLUSIVE), .val (.int (1 : Int32)), .unset, .unset] [(.ref st_EXCLUSIVE), (.ref st_EXCLUSIVE)])) t → Steps p.tables e below (s₁.setTop (entryFrame m #[(.int xx), (.int yy)] maxLocals)) t := fun t kt => by
        refine S93 t ?_
        show Steps p.tables e below (T91.setTop (mkF m 55 #[.val (.int xx), .val (.int yy), .val (.int (1 : Int32)), .val (.int (1 : Int32)), .val (.ref st_EXCLUSIVE), .val (.ref st_EXCLUSIVE), .unset, .unset, .unset] [(.int (1 : Int32))])) t
        refine XS.ifYes X91.here hx rfl (pc0 := 55) (pc' := 68) rfl (hb hby at_55) rfl ((if0 _ _).trans (feq hc55_94).2) (by decide) (by decide) ?_
        show Steps p.tables e below (T91.setTop (mkF m 68 #[.val (.int xx), .val (.int yy), .val (.int (1 : Int32)), .val (.int (1 : Int32)), .val (.ref st_EXCLUSIVE), .val (.ref st_EXCLUSIVE), .unset, .unset, .unset] [])) t
        refine XS.iconst X91.here hx rfl (hb hby at_68) ?_
        show Steps p.tables e below (T91.setTop (mkF m 69 #[.val (.int xx), .val (.int yy), .val (.int (1 : Int32)), .val (.int (1 : Int32)), .val (.ref st_EXCLUSIVE), .val (.ref st_EXCLUSIVE), .unset, .unset, .unset] [(.int (1 : Int32))])) t
        refine XS.istore X91.here hx rfl (hb hby at_69) rfl (l' := #[.val (.int xx), .val (.int yy), .val (.int (1 : Int32)), .val (.int (1 : Int32)), .val (.ref st_EXCLUSIVE), .val (.ref st_EXCLUSIVE), .val (.int (1 : Int32)), .unset, .unset]) rfl ?_
        show Steps p.tables e below (T91.setTop (mkF m 71 #[.val (.int xx), .val (.int yy), .val (.int (1 : Int32)), .val (.int (1 : Int32)), .val (.ref st_EXCLUSIVE), .val (.ref st_EXCLUSIVE), .val (.int (1 : Int32)), .unset, .unset] [])) t
        refine XS.aload X91.here hx rfl (hb hby at_71) rfl rfl ?_
        show Steps p.tables e below (T91.setTop (mkF m 73 #[.val (.int xx), .val (.int yy), .val (.int (1 : Int32)), .val (.int (1 : Int32)), .val (.ref st_EXCLUSIVE), .val (.ref st_EXCLUSIVE), .val (.int (1 : Int32)), .unset, .unset] [(.ref st_EXCLUSIVE)])) t
        refine XS.aload X91.here hx rfl (hb hby at_73) rfl rfl ?_
        exact kt
      obtain ⟨cq97, kq97, q97a, q97b, q97c⟩ := isOf hZ e91 E_EXCLUSIVE
      obtain ⟨_, _, ⟨T97, L97, k97, n97⟩, -, X97, ⟨Lc97, hQ97, l97, y97, z97⟩, st97⟩ := X91.virtualBack hx (y := (⟨"com/example/nestwarden/nestwarden/node/RowLocks$Mode", "conflicts", "(Lcom/example/nestwarden/nestwarden/node/RowLocks$Mode;)Z"⟩ : MethodName)) (z := (⟨"com/example/nestwarden/nestwarden/node/RowLocks$Mode", "conflicts", "(Lcom/example/nestwarden/nestwarden/node/RowLocks$Mode;)Z"⟩ : MethodName)) hown (mvT hZ (hw _ (List.mem_of_getElem? (i := 5) rfl))) (mvT hZ (hw _ (List.mem_of_getElem? (i := 6) rfl))) (notFace_of_selects (args := #[]) (mvT hZ (hw _ (List.mem_of_getElem? (i := 8) rfl)))) (mvT hZ (hw _ (List.mem_of_getElem? (i := 8) rfl))) (mvT hZ (hw _ (List.mem_of_getElem? (i := 7) rfl))) (by decide) (backOf (W := 0) (own_rm1 l Z a0 hw [] (st_EXCLUSIVE) (st_EXCLUSIVE) (st_EXCLUSIVE) h0 n0 Z0 S_EXCLUSIVE) hZ (hw _ (List.mem_of_getElem? (i := 9) rfl)) (hw _ (List.mem_of_getElem? (i := 1) rfl)) (by decide) (by decide)) q97a q97c (g := (mkF m 75 #[.val (.int xx), .val (.int yy), .val (.int (1 : Int32)), .val (.int (1 : Int32)), .val (.ref st_EXCLUSIVE), .val (.ref st_EXCLUSIVE), .val (.int (1 : Int32)), .unset, .unset] [(.ref st_EXCLUSIVE), (.ref st_EXCLUSIVE)])) rfl (by rw [hml]; rfl) (Steps.refl _) (argsL := [(.ref st_EXCLUSIVE)]) (rest := []) (lenOf own_pd0 rfl) rfl (by show 2 * 0 + _ ≤ _; exact Nat.le_of_eq rfl) (hb hby at_75) (fun _ _ => ⟨rfl, e91, (by decide : 0 + 0 ≤ _), (by decide : 0 + 0 ≤ _)⟩)
      dsimp only [Pt.U, Pt.locs, Pt.cells, Pt.slots] at X97 l97 y97 z97 st97 hQ97
      subst l97 y97 z97
      obtain ⟨rfl, rfl, eq95⟩ := hQ97
      try rw [List.append_nil] at X97
      have S98 : ∀ t, Steps p.tables e below (T97.setTop (mkF m 78 #[.val (.int xx), .val (.int yy), .val (.int (1 : Int32)), .val (.int (1 : Int32)), .val (.ref st_EXCLUSIVE), .val (.ref st_EXCLUSIVE), .val (.int (1 : Int32)), .unset, .unset] [(.int (own_b (decide (st_EXCLUSIVE = st_EXCLUSIVE ∨ st_EXCLUSIVE = st_EXCLUSIVE))))])) t → Steps p.tables e below (s₁.setTop (entryFrame m #[(.int xx), (.int yy)] maxLocals)) t := fun t kt => S96 t (st97.trans kt)
      have S100 : ∀ t, Steps p.tables e below (T97.setTop (mkF m 84 #[.val (.int xx), .val (.int yy), .val (.int (1 : Int32)), .val (.int (1 : Int32)), .val (.ref st_EXCLUSIVE), .val (.ref st_EXCLUSIVE), .val (.int (1 : Int32)), .val (.int (own_b (decide (st_EXCLUSIVE = st_EXCLUSIVE ∨ st_EXCLUSIVE = st_EXCLUSIVE)))), .unset] [(.ref st_EXCLUSIVE), (.ref st_EXCLUSIVE)])) t → Steps p.tables e below (s₁.setTop (entryFrame m #[(.int xx), (.int yy)] maxLocals)) t := fun t kt => by
        refine S98 t ?_
        show Steps p.tables e below (T97.setTop (mkF m 78 #[.val (.int xx), .val (.int yy), .val (.int (1 : Int32)), .val (.int (1 : Int32)), .val (.ref st_EXCLUSIVE), .val (.ref st_EXCLUSIVE), .val (.int (1 : Int32)), .unset, .unset] [(.int (own_b (decide (st_EXCLUSIVE = st_EXCLUSIVE ∨ st_EXCLUSIVE = st_EXCLUSIVE))))])) t
        refine XS.istore X97.here hx rfl (hb hby at_78) rfl (l' := #[.val (.int xx), .val (.int yy), .val (.int (1 : Int32)), .val (.int (1 : Int32)), .val (.ref st_EXCLUSIVE), .val (.ref st_EXCLUSIVE), .val (.int (1 : Int32)), .val (.int (own_b (decide (st_EXCLUSIVE = st_EXCLUSIVE ∨ st_EXCLUSIVE = st_EXCLUSIVE)))), .unset]) rfl ?_
        show Steps p.tables e below (T97.setTop (mkF m 80 #[.val (.int xx), .val (.int yy), .val (.int (1 : Int32)), .val (.int (1 : Int32)), .val (.ref st_EXCLUSIVE), .val (.ref st_EXCLUSIVE), .val (.int (1 : Int32)), .val (.int (own_b (decide (st_EXCLUSIVE = st_EXCLUSIVE ∨ st_EXCLUSIVE = st_EXCLUSIVE)))), .unset] [])) t
        refine XS.aload X97.here hx rfl (hb hby at_80) rfl rfl ?_
        show Steps p.tables e below (T97.setTop (mkF m 82 #[.val (.int xx), .val (.int yy), .val (.int (1 : Int32)), .val (.int (1 : Int32)), .val (.ref st_EXCLUSIVE), .val (.ref st_EXCLUSIVE), .val (.int (1 : Int32)), .val (.int (own_b (decide (st_EXCLUSIVE = st_EXCLUSIVE ∨ st_EXCLUSIVE = st_EXCLUSIVE)))), .unset] [(.ref st_EXCLUSIVE)])) t
        refine XS.aload X97.here hx rfl (hb hby at_82) rfl rfl ?_
        exact kt
      obtain ⟨cq101, kq101, q101a, q101b, q101c⟩ := isOf hZ eq95 E_EXCLUSIVE
      obtain ⟨_, _, ⟨T101, L101, k101, n101⟩, -, X101, ⟨Lc101, hQ101, l101, y101, z101⟩, st101⟩ := X97.virtualBack hx (y := (⟨"com/example/nestwarden/nestwarden/node/RowLocks$Mode", "conflicts", "(Lcom/example/nestwarden/nestwarden/node/RowLocks$Mode;)Z"⟩ : MethodName)) (z := (⟨"com/example/nestwarden/nestwarden/node/RowLocks$Mode", "conflicts", "(Lcom/example/nestwarden/nestwarden/node/RowLocks$Mode;)Z"⟩ : MethodName)) hown (mvT hZ (hw _ (List.mem_of_getElem? (i := 5) rfl))) (mvT hZ (hw _ (List.mem_of_getElem? (i := 6) rfl))) (notFace_of_selects (args := #[]) (mvT hZ (hw _ (List.mem_of_getElem? (i := 8) rfl)))) (mvT hZ (hw _ (List.mem_of_getElem? (i := 8) rfl))) (mvT hZ (hw _ (List.mem_of_getElem? (i := 7) rfl))) (by decide) (backOf (W := 0) (own_rm1 l Z a0 hw [] (st_EXCLUSIVE) (st_EXCLUSIVE) (st_EXCLUSIVE) h0 n0 Z0 S_EXCLUSIVE) hZ (hw _ (List.mem_of_getElem? (i := 9) rfl)) (hw _ (List.mem_of_getElem? (i := 1) rfl)) (by decide) (by decide)) q101a q101c (g := (mkF m 84 #[.val (.int xx), .val (.int yy), .val (.int (1 : Int32)), .val (.int (1 : Int32)), .val (.ref st_EXCLUSIVE), .val (.ref st_EXCLUSIVE), .val (.int (1 : Int32)), .val (.int (own_b (decide (st_EXCLUSIVE = st_EXCLUSIVE ∨ st_EXCLUSIVE = st_EXCLUSIVE)))), .unset] [(.ref st_EXCLUSIVE), (.ref st_EXCLUSIVE)])) rfl (by rw [hml]; rfl) (Steps.refl _) (argsL := [(.ref st_EXCLUSIVE)]) (rest := []) (lenOf own_pd0 rfl) rfl (by show 2 * 0 + _ ≤ _; exact Nat.le_of_eq rfl) (hb hby at_84) (fun _ _ => ⟨rfl, eq95, (by decide : 0 + 0 ≤ _), (by decide : 0 + 0 ≤ _)⟩)
      dsimp only [Pt.U, Pt.locs, Pt.cells, Pt.slots] at X101 l101 y101 z101 st101 hQ101
      subst l101 y101 z101
      obtain ⟨rfl, rfl, eq99⟩ := hQ101
      try rw [List.append_nil] at X101
      have S102 : ∀ t, Steps p.tables e below (T101.setTop (mkF m 87 #[.val (.int xx), .val (.int yy), .val (.int (1 : Int32)), .val (.int (1 : Int32)), .val (.ref st_EXCLUSIVE), .val (.ref st_EXCLUSIVE), .val (.int (1 : Int32)), .val (.int (own_b (decide (st_EXCLUSIVE = st_EXCLUSIVE ∨ st_EXCLUSIVE = st_EXCLUSIVE)))), .unset] [(.int (own_b (decide (st_EXCLUSIVE = st_EXCLUSIVE ∨ st_EXCLUSIVE = st_EXCLUSIVE))))])) t → Steps p.tables e below (s₁.setTop (entryFrame m #[(.int xx), (.int yy)] maxLocals)) t := fun t kt => S100 t (st101.trans kt)
      have S103 : ∀ t, Steps p.tables e below (T101.setTop (mkF m 93 #[.val (.int xx), .val (.int yy), .val (.int (1 : Int32)), .val (.int (1 : Int32)), .val (.ref st_EXCLUSIVE), .val (.ref st_EXCLUSIVE), .val (.int (1 : Int32)), .val (.int (own_b (decide (st_EXCLUSIVE = st_EXCLUSIVE ∨ st_EXCLUSIVE = st_EXCLUSIVE)))), .val (.int (own_b (decide (st_EXCLUSIVE = st_EXCLUSIVE ∨ st_EXCLUSIVE = st_EXCLUSIVE))))] [(.int (1 : Int32)), (.int (own_b (decide (st_EXCLUSIVE = st_EXCLUSIVE ∨ st_EXCLUSIVE = st_EXCLUSIVE))))])) t → Steps p.tables e below (s₁.setTop (entryFrame m #[(.int xx), (.int yy)] maxLocals)) t := fun t kt => by
        refine S102 t ?_
        show Steps p.tables e below (T101.setTop (mkF m 87 #[.val (.int xx), .val (.int yy), .val (.int (1 : Int32)), .val (.int (1 : Int32)), .val (.ref st_EXCLUSIVE), .val (.ref st_EXCLUSIVE), .val (.int (1 : Int32)), .val (.int (own_b (decide (st_EXCLUSIVE = st_EXCLUSIVE ∨ st_EXCLUSIVE = st_EXCLUSIVE)))), .unset] [(.int (own_b (decide (st_EXCLUSIVE = st_EXCLUSIVE ∨ st_EXCLUSIVE = st_EXCLUSIVE))))])) t
        refine XS.istore X101.here hx rfl (hb hby at_87) rfl (l' := #[.val (.int xx), .val (.int yy), .val (.int (1 : Int32)), .val (.int (1 : Int32)), .val (.ref st_EXCLUSIVE), .val (.ref st_EXCLUSIVE), .val (.int (1 : Int32)), .val (.int (own_b (decide (st_EXCLUSIVE = st_EXCLUSIVE ∨ st_EXCLUSIVE = st_EXCLUSIVE)))), .val (.int (own_b (decide (st_EXCLUSIVE = st_EXCLUSIVE ∨ st_EXCLUSIVE = st_EXCLUSIVE))))]) rfl ?_
        show Steps p.tables e below (T101.setTop (mkF m 89 #[.val (.int xx), .val (.int yy), .val (.int (1 : Int32)), .val (.int (1 : Int32)), .val (.ref st_EXCLUSIVE), .val (.ref st_EXCLUSIVE), .val (.int (1 : Int32)), .val (.int (own_b (decide (st_EXCLUSIVE = st_EXCLUSIVE ∨ st_EXCLUSIVE = st_EXCLUSIVE)))), .val (.int (own_b (decide (st_EXCLUSIVE = st_EXCLUSIVE ∨ st_EXCLUSIVE = st_EXCLUSIVE))))] [])) t
        refine XS.iload X101.here hx rfl (hb hby at_89) rfl ?_
        show Steps p.tables e below (T101.setTop (mkF m 91 #[.val (.int xx), .val (.int yy), .val (.int (1 : Int32)), .val (.int (1 : Int32)), .val (.ref st_EXCLUSIVE), .val (.ref st_EXCLUSIVE), .val (.int (1 : Int32)), .val (.int (own_b (decide (st_EXCLUSIVE = st_EXCLUSIVE ∨ st_EXCLUSIVE = st_EXCLUSIVE)))), .val (.int (own_b (decide (st_EXCLUSIVE = st_EXCLUSIVE ∨ st_EXCLUSIVE = st_EXCLUSIVE))))] [(.int (own_b (decide (st_EXCLUSIVE = st_EXCLUSIVE ∨ st_EXCLUSIVE = st_EXCLUSIVE))))])) t
        refine XS.iload X101.here hx rfl (hb hby at_91) rfl ?_
        exact kt
      have hc93_104 : (own_b (decide (st_EXCLUSIVE = st_EXCLUSIVE ∨ st_EXCLUSIVE = st_EXCLUSIVE))) = (1 : Int32) := by simp [own_b, hne]
      have S105 : ∀ t, Steps p.tables e below (T101.setTop (mkF m 100 #[.val (.int xx), .val (.int yy), .val (.int (1 : Int32)), .val (.int (1 : Int32)), .val (.ref st_EXCLUSIVE), .val (.ref st_EXCLUSIVE), .val (.int (1 : Int32)), .val (.int (own_b (decide (st_EXCLUSIVE = st_EXCLUSIVE ∨ st_EXCLUSIVE = st_EXCLUSIVE)))), .val (.int (own_b (decide (st_EXCLUSIVE = st_EXCLUSIVE ∨ st_EXCLUSIVE = st_EXCLUSIVE))))] [(.int (1 : Int32)), (.int (own_b (decide (st_EXCLUSIVE = st_EXCLUSIVE ∨ st_EXCLUSIVE = st_EXCLUSIVE))))])) t → Steps p.tables e below (s₁.setTop (entryFrame m #[(.int xx), (.int yy)] maxLocals)) t := fun t kt => by
        refine S103 t ?_
        show Steps p.tables e below (T101.setTop (mkF m 93 #[.val (.int xx), .val (.int yy), .val (.int (1 : Int32)), .val (.int (1 : Int32)), .val (.ref st_EXCLUSIVE), .val (.ref st_EXCLUSIVE), .val (.int (1 : Int32)), .val (.int (own_b (decide (st_EXCLUSIVE = st_EXCLUSIVE ∨ st_EXCLUSIVE = st_EXCLUSIVE)))), .val (.int (own_b (decide (st_EXCLUSIVE = st_EXCLUSIVE ∨ st_EXCLUSIVE = st_EXCLUSIVE))))] [(.int (1 : Int32)), (.int (own_b (decide (st_EXCLUSIVE = st_EXCLUSIVE ∨ st_EXCLUSIVE = st_EXCLUSIVE))))])) t
        refine XS.icmpNo X101.here hx rfl (hb hby at_93) rfl (teq hc93_104).2 ?_
        show Steps p.tables e below (T101.setTop (mkF m 96 #[.val (.int xx), .val (.int yy), .val (.int (1 : Int32)), .val (.int (1 : Int32)), .val (.ref st_EXCLUSIVE), .val (.ref st_EXCLUSIVE), .val (.int (1 : Int32)), .val (.int (own_b (decide (st_EXCLUSIVE = st_EXCLUSIVE ∨ st_EXCLUSIVE = st_EXCLUSIVE)))), .val (.int (own_b (decide (st_EXCLUSIVE = st_EXCLUSIVE ∨ st_EXCLUSIVE = st_EXCLUSIVE))))] [])) t
        refine XS.iload X101.here hx rfl (hb hby at_96) rfl ?_
        show Steps p.tables e below (T101.setTop (mkF m 98 #[.val (.int xx), .val (.int yy), .val (.int (1 : Int32)), .val (.int (1 : Int32)), .val (.ref st_EXCLUSIVE), .val (.ref st_EXCLUSIVE), .val (.int (1 : Int32)), .val (.int (own_b (decide (st_EXCLUSIVE = st_EXCLUSIVE ∨ st_EXCLUSIVE = st_EXCLUSIVE)))), .val (.int (own_b (decide (st_EXCLUSIVE = st_EXCLUSIVE ∨ st_EXCLUSIVE = st_EXCLUSIVE))))] [(.int (own_b (decide (st_EXCLUSIVE = st_EXCLUSIVE ∨ st_EXCLUSIVE = st_EXCLUSIVE))))])) t
        refine XS.iload X101.here hx rfl (hb hby at_98) rfl ?_
        exact kt
      have hc100_106 : (own_b (decide (st_EXCLUSIVE = st_EXCLUSIVE ∨ st_EXCLUSIVE = st_EXCLUSIVE))) = (1 : Int32) := by simp [own_b, hne]
      have S107 : ∀ t, Steps p.tables e below (T101.setTop (mkF m 108 #[.val (.int xx), .val (.int yy), .val (.int (1 : Int32)), .val (.int (1 : Int32)), .val (.ref st_EXCLUSIVE), .val (.ref st_EXCLUSIVE), .val (.int (1 : Int32)), .val (.int (own_b (decide (st_EXCLUSIVE = st_EXCLUSIVE ∨ st_EXCLUSIVE = st_EXCLUSIVE)))), .val (.int (own_b (decide (st_EXCLUSIVE = st_EXCLUSIVE ∨ st_EXCLUSIVE = st_EXCLUSIVE))))] [(.int (1 : Int32))])) t → Steps p.tables e below (s₁.setTop (entryFrame m #[(.int xx), (.int yy)] maxLocals)) t := fun t kt => by
        refine S105 t ?_
        show Steps p.tables e below (T101.setTop (mkF m 100 #[.val (.int xx), .val (.int yy), .val (.int (1 : Int32)), .val (.int (1 : Int32)), .val (.ref st_EXCLUSIVE), .val (.ref st_EXCLUSIVE), .val (.int (1 : Int32)), .val (.int (own_b (decide (st_EXCLUSIVE = st_EXCLUSIVE ∨ st_EXCLUSIVE = st_EXCLUSIVE)))), .val (.int (own_b (decide (st_EXCLUSIVE = st_EXCLUSIVE ∨ st_EXCLUSIVE = st_EXCLUSIVE))))] [(.int (1 : Int32)), (.int (own_b (decide (st_EXCLUSIVE = st_EXCLUSIVE ∨ st_EXCLUSIVE = st_EXCLUSIVE))))])) t
        refine XS.icmpNo X101.here hx rfl (hb hby at_100) rfl (teq hc100_106).2 ?_
        show Steps p.tables e below (T101.setTop (mkF m 103 #[.val (.int xx), .val (.int yy), .val (.int (1 : Int32)), .val (.int (1 : Int32)), .val (.ref st_EXCLUSIVE), .val (.ref st_EXCLUSIVE), .val (.int (1 : Int32)), .val (.int (own_b (decide (st_EXCLUSIVE = st_EXCLUSIVE ∨ st_EXCLUSIVE = st_EXCLUSIVE)))), .val (.int (own_b (decide (st_EXCLUSIVE = st_EXCLUSIVE ∨ st_EXCLUSIVE = st_EXCLUSIVE))))] [])) t
        refine XS.iconst X101.here hx rfl (hb hby at_103) ?_
        show Steps p.tables e below (T101.setTop (mkF m 104 #[.val (.int xx), .val (.int yy), .val (.int (1 : Int32)), .val (.int (1 : Int32)), .val (.ref st_EXCLUSIVE), .val (.ref st_EXCLUSIVE), .val (.int (1 : Int32)), .val (.int (own_b (decide (st_EXCLUSIVE = st_EXCLUSIVE ∨ st_EXCLUSIVE = st_EXCLUSIVE)))), .val (.int (own_b (decide (st_EXCLUSIVE = st_EXCLUSIVE ∨ st_EXCLUSIVE = st_EXCLUSIVE))))] [(.int (1 : Int32))])) t
        refine XS.goto X101.here hx rfl (pc0 := 104) (pc' := 108) rfl (hb hby at_104) (by decide) (by decide) ?_
        exact kt
      obtain ⟨fs, hr, hrun, hended, hW, hsame⟩ := X101.leave (v := some (.int (nar .boolean (1 : Int32)))) (fun h => by rw [Bd.returns] at h; cases h)
      refine ⟨_, _, S107 _ ?_, hrun, hended, _, _, rfl, ?_, ⟨_, rfl⟩, hW, hsame.mono (by decide) (by decide)⟩
      · show Steps p.tables e below (T101.setTop (mkF m 108 #[.val (.int xx), .val (.int yy), .val (.int (1 : Int32)), .val (.int (1 : Int32)), .val (.ref st_EXCLUSIVE), .val (.ref st_EXCLUSIVE), .val (.int (1 : Int32)), .val (.int (own_b (decide (st_EXCLUSIVE = st_EXCLUSIVE ∨ st_EXCLUSIVE = st_EXCLUSIVE)))), .val (.int (own_b (decide (st_EXCLUSIVE = st_EXCLUSIVE ∨ st_EXCLUSIVE = st_EXCLUSIVE))))] [(.int (1 : Int32))])) _
        exact retN X101 hx (t := .boolean) Bd.returns (by simp) (hb hby at_108) hr
      · show own_Q0 Z xx yy st_SHARED st_EXCLUSIVE h0 n0 _ T101.heap _
        rw [eq99]
        exact ⟨rfl, N0⟩
set_option maxHeartbeats 40000000 in
theorem own_comes {Post : Tables → Env → Array Value → State → Outcome → State → Prop} (hpost : ∀ tb e args s v u, (limb_1_1.after args s (.returned v) u = true ∧ limb_1_2.after args s (.returned v) u = true ∧ True) → FrameEnd s (.returned v) u (Jvm.fieldLocs frame_1_writes args s ++ Jvm.arrayLocs frame_1_arrays args s ++ Jvm.staticLocs frame_1_statics s) 0 0 → Post tb e args s (.returned v) u) :
    ArmFor flags0 classFile x code maxLocals ret World_1 tables_1 room_1 Calls_1 rest_1 Pre_1 Post := by
  intro l hfl _ _ p e ha hc hk s m args below hf hA hF happ hP
  obtain ⟨hcalls, hrest, hpre⟩ := hP
  obtain ⟨-, -, -, hnamed, -, -, -, hat⟩ := (Spec.applies_iff hf).mp happ
  obtain ⟨hg, hn⟩ := and_e (Cond.before_iff.mp (show (Jvm.Cond.and given_1 narrow_1).before args s = true from hpre))
  obtain ⟨g1, g2⟩ := and_e hg
  obtain ⟨g3, g4⟩ := and_e g2
  obtain ⟨g5, g6⟩ := and_e hn
  obtain ⟨g7, g8⟩ := and_e g6
  obtain ⟨g9, g10⟩ := and_e g8
  obtain ⟨w0, w1, rfl⟩ : ∃ w0 w1 : Value, args = #[w0, w1] := by
    have hs : args.size = 2 := by simpa [Cond.value, given_1] using g1
    obtain ⟨L⟩ := args
    match L, hs with
    | [w0, w1], _ => exact ⟨w0, w1, rfl⟩
  have hw := fun d (hd : d ∈ tables_1) => atoms_spec (ws := Jvm.Cond.code x code maxLocals ret :: tables_1) hat d (List.mem_cons_of_mem _ hd)
  have hfit : Fit s := fun {y c} hc i hi => by
    obtain ⟨ha, rfl⟩ := Array.getElem?_eq_some_iff.mp hc
    have q := List.all_eq_true.mp ((Array.all_eq_true_iff_forall_mem.mp hF) _ (Array.getElem_mem ha)) i (List.mem_range.mpr hi)
    simpa [Array.getElem?_eq_getElem hi] using q
  obtain ⟨i0, ei0⟩ := is_v g3
  obtain rfl : w0 = (.int i0) := Option.some.inj ei0
  obtain ⟨i1, ei1⟩ := is_v g4
  obtain rfl : w1 = (.int i1) := Option.some.inj ei1
  obtain ⟨st_SHARED, ev_SHARED⟩ := exa_v g5
  have S_SHARED : Sta s s.heap "com/example/nestwarden/nestwarden/node/RowLocks$Mode" "SHARED" "Lcom/example/nestwarden/nestwarden/node/RowLocks$Mode;" (.ref st_SHARED) := Sta.start ev_SHARED (Or.inr ⟨(hw _ (List.mem_of_getElem? (i := 1) rfl)), (hw _ (List.mem_of_getElem? (i := 2) rfl))⟩)
  have E_SHARED : Exa s s.heap st_SHARED "com/example/nestwarden/nestwarden/node/RowLocks$Mode" := Exa.start ev_SHARED g5
  obtain ⟨st_EXCLUSIVE, ev_EXCLUSIVE⟩ := exa_v g7
  have S_EXCLUSIVE : Sta s s.heap "com/example/nestwarden/nestwarden/node/RowLocks$Mode" "EXCLUSIVE" "Lcom/example/nestwarden/nestwarden/node/RowLocks$Mode;" (.ref st_EXCLUSIVE) := Sta.start ev_EXCLUSIVE (Or.inr ⟨(hw _ (List.mem_of_getElem? (i := 1) rfl)), (hw _ (List.mem_of_getElem? (i := 4) rfl))⟩)
  have E_EXCLUSIVE : Exa s s.heap st_EXCLUSIVE "com/example/nestwarden/nestwarden/node/RowLocks$Mode" := Exa.start ev_EXCLUSIVE g7
  have F_SHARED_ordinal : Fld s s.heap st_SHARED "java/lang/Enum" "ordinal" "I" (.int (0 : Int32)) := by
    obtain ⟨vx, vy, ex, ey, kx, ky⟩ := cmp_v (Or.inl g9)
    obtain rfl : vy = .int (0 : Int32) := (Option.some.inj ey).symm
    obtain ⟨vz, rfl⟩ := ky
    have hq := gotT (Cond.eq_ints ex ey) g9
    subst hq
    exact Fld.start ((fld_at ev_SHARED).symm.trans ex)
  have F_EXCLUSIVE_ordinal : Fld s s.heap st_EXCLUSIVE "java/lang/Enum" "ordinal" "I" (.int (1 : Int32)) := by
    obtain ⟨vx, vy, ex, ey, kx, ky⟩ := cmp_v (Or.inl g10)
    obtain rfl : vy = .int (1 : Int32) := (Option.some.inj ey).symm
    obtain ⟨vz, rfl⟩ := ky
    have hq := gotT (Cond.eq_ints ex ey) g10
    subst hq
    exact Fld.start ((fld_at ev_EXCLUSIVE).symm.trans ex)
  obtain ⟨n, o, h1, h2, h3, _, L, rfl, ⟨rfl, N⟩, hq⟩ := own_rm0 l s _ hw tables_1 i0 i1 st_SHARED st_EXCLUSIVE s.heap s.heap.size (Nat.le_refl _) S_SHARED S_EXCLUSIVE E_SHARED E_EXCLUSIVE (fun q => Fld.ne F_SHARED_ordinal F_EXCLUSIVE_ordinal (fun q => absurd (Value.int.inj q) (by decide)) q) p e ha hc hk s m _ below hf ((Spec.applies_iff_loose hf).mp happ).1 ⟨rfl, State.Warmed39.refl s, rfl⟩ trivial
  refine ⟨n, _, h1, h2, h3, hpost _ _ _ _ _ _ ⟨Cond.after_iff.mpr rfl, Cond.after_iff.mpr (eq_i res_at (Term.int_eval (1)) rfl), trivial⟩ ⟨hq.1, hq.2.1, (hq.2.2.sift fun y hy => Or.inr (N y hy)).mono (by decide) (by decide)⟩⟩
theorem main_1_1 : Claimed_1_1 := own_comes fun _ _ _ _ _ _ h hF => ⟨h.1, hF⟩
theorem main_1_2 : Claimed_1_2 := own_comes fun _ _ _ _ _ _ h hF => ⟨h.2.1, hF⟩
end Jvm.Pilot.@@N@@
namespace Jvm.Pilot.@@N@@
open Jvm Jvm.ClassFile Sem Op Lib Jvm.Free Jvm.Stand Jvm.Pilot.@@N@@.Jvm.D
/-! MADE BY PROGRAM (witnessworld.py) out of the Statement's table words and the real class files: 12 classes; the members and pool entries that the words name. The judged class is class 1, her method 1. -/
namespace start1
open Jvm.ClassFile
def u (s : String) : CpInfo := .utf8 (stringToUtf16 s)
/-- a pool by its gaps: so many unusable entries, then the entry; so many at the end -/
def gap : Nat → List CpInfo → List CpInfo
  | 0, r => r
  | n + 1, r => .unusable :: gap n r
def poolList (es : List (Nat × CpInfo)) (last : Nat) : List CpInfo := es.foldr (fun e r => gap e.1 (e.2 :: r)) (gap last [])
def pool (es : List (Nat × CpInfo)) (last : Nat) : Array CpInfo := ⟨poolList es last⟩
def fileOf (pool : Array CpInfo) (this : Nat) (attrs : Array Attribute := #[]) (ms : Array MethodInfo := #[]) (fl : Nat := 33) (sup : Nat := 0) (ifs : Array Nat := #[]) (fds : Array FieldInfo := #[]) : ClassFile where
  minorVersion := 0
  majorVersion := 65
  constantPool := pool
  accessFlags := fl
  thisClass := this
  superClass := sup
  interfaces := ifs
  fields := fds
  methods := ms
  attributes := attrs
def plain (name : String) (sup : Option ClassId) : Class where
  name := name
  kind := .ordinary
  loader := none
  accessFlags := 33
  super := sup
  interfaces := #[]
  cf := none
  fields := #[]
  methods := #[]
  instanceTypes := #[]
  staticTypes := #[]
  resolved := #[]
  callSites := []
  init := .initialized
  statics := none
  mirror := none

def pool0 : Array CpInfo := pool [(5, u "<init>"), (0, u "()V"), (1, .class_ 10), (1, u "java/lang/Object")] 113

def k0m0 : Method := { name := "<init>", desc := "()V", sig := { parameters := [], returnType := none }, accessFlags := 1, code := none }
/-- java/lang/Object -/
def k0 : Class := { plain "java/lang/Object" none with
  accessFlags := 33
  interfaces := #[]
  cf := some (fileOf pool0 8 #[] #[{ accessFlags := 1, nameIndex := 5, descriptorIndex := 6, attributes := #[] }] 33 0 #[] #[])
  fields := #[]
  methods := #[k0m0]
  instanceTypes := #[]
  staticTypes := #[]
  resolved := Array.replicate 124 none
  statics := none }

def pool1 : Array CpInfo := pool [(2, .class_ 4), (1, u "java/lang/Object"), (0, u "<init>"), (0, u "()V"), (0, .fieldref 8 9), (0, .class_ 10), (0, .nameAndType 11 12), (0, u "com/example/nestwarden/nestwarden/node/RowLocks$Mode"), (0, u "EXCLUSIVE"), (0, u "Lcom/example/nestwarden/nestwarden/node/RowLocks$Mode;"), (0, .fieldref 8 14), (0, .nameAndType 15 12), (0, u "SHARED"), (0, .methodref 8 17), (0, .nameAndType 18 19), (0, u "conflicts"), (0, u "(Lcom/example/nestwarden/nestwarden/node/RowLocks$Mode;)Z"), (0, .class_ 21), (0, u "com/example/nestwarden/nestwarden/node/ModeConflictsPinLaw"), (2, u "law"), (0, u "(II)Z")] 7

def k1m0 : Method := { name := "<init>", desc := "()V", sig := { parameters := [], returnType := none }, accessFlags := 1, code := none }
def k1c1 : Code := { maxStack := 2, maxLocals := 9, code := code, exceptionTable := #[], attributes := #[] }
def k1m1 : Method := { name := "law", desc := "(II)Z", sig := { parameters := [.int, .int], returnType := some .boolean }, accessFlags := 9, code := some k1c1 }
/-- com/example/nestwarden/nestwarden/node/ModeConflictsPinLaw -/
def k1 : Class := { plain "com/example/nestwarden/nestwarden/node/ModeConflictsPinLaw" (some 0) with
  accessFlags := 49
  interfaces := #[]
  cf := some (fileOf pool1 20 #[] #[{ accessFlags := 1, nameIndex := 5, descriptorIndex := 6, attributes := #[] }, { accessFlags := 9, nameIndex := 24, descriptorIndex := 25, attributes := #[] }] 49 2 #[] #[])
  fields := #[]
  methods := #[k1m0, k1m1]
  instanceTypes := #[]
  staticTypes := #[]
  resolved := Array.replicate 33 none
  statics := none }

def pool2 : Array CpInfo := pool [(1, .class_ 2), (0, u "java/lang/constant/Constable"), (0, .class_ 4), (0, u "java/lang/Object")] 6

/-- java/lang/constant/Constable -/
def k2 : Class := { plain "java/lang/constant/Constable" (some 0) with
  accessFlags := 1537
  interfaces := #[]
  cf := some (fileOf pool2 1 #[] #[] 1537 3 #[] #[])
  fields := #[]
  methods := #[]
  instanceTypes := #[]
  staticTypes := #[]
  resolved := Array.replicate 11 none
  statics := none }

def pool3 : Array CpInfo := pool [(1, .class_ 2), (0, u "java/lang/Comparable"), (0, .class_ 4), (0, u "java/lang/Object")] 7

/-- java/lang/Comparable -/
def k3 : Class := { plain "java/lang/Comparable" (some 0) with
  accessFlags := 1537
  interfaces := #[]
  cf := some (fileOf pool3 1 #[] #[] 1537 3 #[] #[])
  fields := #[]
  methods := #[]
  instanceTypes := #[]
  staticTypes := #[]
  resolved := Array.replicate 12 none
  statics := none }

def pool4 : Array CpInfo := pool [(1, .class_ 2), (0, u "java/io/Serializable"), (0, .class_ 4), (0, u "java/lang/Object")] 2

/-- java/io/Serializable -/
def k4 : Class := { plain "java/io/Serializable" (some 0) with
  accessFlags := 1537
  interfaces := #[]
  cf := some (fileOf pool4 1 #[] #[] 1537 3 #[] #[])
  fields := #[]
  methods := #[]
  instanceTypes := #[]
  staticTypes := #[]
  resolved := Array.replicate 7 none
  statics := none }

def pool5 : Array CpInfo := pool [(2, .class_ 4), (1, u "java/lang/Enum"), (0, u "name"), (0, u "Ljava/lang/String;"), (2, u "ordinal"), (0, u "I"), (1, .class_ 14), (1, u "java/lang/Object"), (4, u "hash"), (86, .class_ 108), (1, u "java/lang/Enum$EnumDesc"), (2, .class_ 112), (0, u "java/lang/constant/Constable"), (0, .class_ 114), (0, u "java/lang/Comparable"), (0, .class_ 116), (0, u "java/io/Serializable")] 87

/-- java/lang/Enum -/
def k5 : Class := { plain "java/lang/Enum" (some 0) with
  accessFlags := 1057
  interfaces := #[2, 3, 4]
  cf := some (fileOf pool5 2 #[.nestMembers #[106]] #[] 1057 12 #[111, 113, 115] #[{ accessFlags := 18, nameIndex := 5, descriptorIndex := 6, attributes := #[] }, { accessFlags := 18, nameIndex := 9, descriptorIndex := 10, attributes := #[] }, { accessFlags := 2, nameIndex := 19, descriptorIndex := 10, attributes := #[] }])
  fields := #[{ name := "name", type := (.object "java/lang/String"), accessFlags := 18, slot := 0, constantValue := 0 }, { name := "ordinal", type := .int, accessFlags := 18, slot := 1, constantValue := 0 }, { name := "hash", type := .int, accessFlags := 2, slot := 2, constantValue := 0 }]
  methods := #[]
  instanceTypes := #[(.object "java/lang/String"), .int, .int]
  staticTypes := #[]
  resolved := Array.replicate 204 none
  statics := none }

def pool6 : Array CpInfo := pool [(1, .class_ 2), (0, u "com/example/nestwarden/nestwarden/node/RowLocks$Mode"), (2, u "SHARED"), (0, u "Lcom/example/nestwarden/nestwarden/node/RowLocks$Mode;"), (0, .fieldref 1 8), (0, .nameAndType 9 6), (0, u "EXCLUSIVE"), (2, u "$VALUES"), (0, u "[Lcom/example/nestwarden/nestwarden/node/RowLocks$Mode;"), (6, .class_ 22), (1, u "java/lang/Enum"), (20, u "conflicts"), (0, u "(Lcom/example/nestwarden/nestwarden/node/RowLocks$Mode;)Z"), (6, .class_ 52), (0, u "com/example/nestwarden/nestwarden/node/RowLocks")] 2

def k6c0 : Code := { maxStack := 2, maxLocals := 2, code := prog_41_method_4_code, exceptionTable := #[], attributes := #[] }
def k6m0 : Method := { name := "conflicts", desc := "(Lcom/example/nestwarden/nestwarden/node/RowLocks$Mode;)Z", sig := { parameters := [(.object "com/example/nestwarden/nestwarden/node/RowLocks$Mode")], returnType := some .boolean }, accessFlags := 0, code := some k6c0 }
/-- com/example/nestwarden/nestwarden/node/RowLocks$Mode -/
def k6 : Class := { plain "com/example/nestwarden/nestwarden/node/RowLocks$Mode" (some 5) with
  accessFlags := 16432
  interfaces := #[]
  cf := some (fileOf pool6 1 #[.nestHost 51] #[{ accessFlags := 0, nameIndex := 43, descriptorIndex := 44, attributes := #[] }] 16432 20 #[] #[{ accessFlags := 16409, nameIndex := 5, descriptorIndex := 6, attributes := #[] }, { accessFlags := 16409, nameIndex := 9, descriptorIndex := 6, attributes := #[] }, { accessFlags := 4122, nameIndex := 12, descriptorIndex := 13, attributes := #[] }])
  fields := #[{ name := "SHARED", type := (.object "com/example/nestwarden/nestwarden/node/RowLocks$Mode"), accessFlags := 16409, slot := 0, constantValue := 0 }, { name := "EXCLUSIVE", type := (.object "com/example/nestwarden/nestwarden/node/RowLocks$Mode"), accessFlags := 16409, slot := 1, constantValue := 0 }, { name := "$VALUES", type := (.array (.object "com/example/nestwarden/nestwarden/node/RowLocks$Mode")), accessFlags := 4122, slot := 2, constantValue := 0 }]
  methods := #[k6m0]
  instanceTypes := #[(.object "java/lang/String"), .int, .int]
  staticTypes := #[(.object "com/example/nestwarden/nestwarden/node/RowLocks$Mode"), (.object "com/example/nestwarden/nestwarden/node/RowLocks$Mode"), (.array (.object "com/example/nestwarden/nestwarden/node/RowLocks$Mode"))]
  resolved := Array.replicate 55 none
  statics := some 0 }

def pool7 : Array CpInfo := pool [(1, u "java/lang/Cloneable"), (0, .class_ 1), (0, u "java/lang/Object"), (0, .class_ 3)] 3

/-- java/lang/Cloneable -/
def k7 : Class := { plain "java/lang/Cloneable" (some 0) with
  accessFlags := 1537
  interfaces := #[]
  cf := some (fileOf pool7 2 #[] #[] 1537 4 #[] #[])
  fields := #[]
  methods := #[]
  instanceTypes := #[]
  staticTypes := #[]
  resolved := Array.replicate 8 none
  statics := none }

/-- the primitive byte -/
def k8 : Class := { plain "byte" none with kind := .primitive 'B', accessFlags := 0x411 }
/-- [B -/
def k9 : Class := { plain "[B" (some 0) with kind := .array 8 .byte, interfaces := #[7, 4], accessFlags := 1041 }

/-- the primitive int -/
def k10 : Class := { plain "int" none with kind := .primitive 'I', accessFlags := 0x411 }
/-- [I -/
def k11 : Class := { plain "[I" (some 0) with kind := .array 10 .int, interfaces := #[7, 4], accessFlags := 1041 }

def heap : Heap := #[{ cls := 6, slots := #[.ref 1, .ref 2, .null], vm := .statics 6 },
  { cls := 6, slots := #[.null, .int 0, .int 0], vm := .none },
  { cls := 6, slots := #[.null, .int 1, .int 0], vm := .none }]
def classes : Array Class := #[k0, k1, k2, k3, k4, k5, k6, k7, k8, k9, k10, k11]
def interned : List (Array UInt16 × Addr) := []
def slotsUsed : Nat := 9
def theMethod : MethodId := ⟨1, 1⟩
def args0 : Array Value := #[.int 1, .int 2]
def aboutOver (below : List Frame) : State where
  vm := { classes := classes, interned := interned.toArray }
  heap := heap
  slotsUsed := slotsUsed
  threads := #[{ frames := .invoking theMethod args0 :: below }]
def below0 : List Frame := [.native { method := ⟨0, 0⟩, args := #[] }]
def about1 : State := aboutOver below0
def p0 : Program := .bare "" "" ""
def e0 : Env := launch0.env 0 0 0
theorem w_frames : about1.frames = Frame.invoking theMethod args0 :: below0 := rfl
set_option maxRecDepth 65536 in
theorem w_args : argsFit about1.vm theMethod args0 = true := by decide +kernel
set_option maxRecDepth 65536 in
theorem w_heap : heapFits about1 = true := by decide +kernel
set_option maxRecDepth 65536 in
theorem w_runnable : about1.curStatus? = some .runnable := by decide +kernel
set_option maxRecDepth 65536 in
theorem w_alone : about1.alone = true := by decide +kernel
set_option maxRecDepth 65536 in
theorem w_named : about1.methodNamed? x = some theMethod := by decide +kernel
set_option maxRecDepth 65536 in
theorem w_hears : about1.hears theMethod below0 = true := by decide +kernel
set_option maxRecDepth 65536 in
theorem w_ripe : about1.ripe theMethod args0 below0 = true := by decide +kernel
theorem w_running : about1.status = .running := rfl
set_option maxRecDepth 65536 in
theorem w_room : about1.hasRoom e0.platform room_1 = true :=
  launch0.hasRoom_least _ room_1 (by decide +kernel) (by decide +kernel) (by decide +kernel) (by decide +kernel) (by decide +kernel) (by decide +kernel)
theorem allAtoms_all (ts : List Jvm.Cond) (a : Array Jvm.Value) (st : Jvm.State) : (allAtoms ts).before a st = ts.all (fun c => c.before a st) := by
  induction ts with
  | nil => rfl
  | cons c t ih =>
    show (Jvm.Cond.and c (allAtoms t)).before a st = _
    rw [Jvm.Cond.before_and, ih, List.all_cons]
def words1 : List Jvm.Cond := Jvm.Cond.code x code maxLocals ret :: tables_1
/-- a 'code' word, met by the world's own term for the bytes: nothing is compared byte by byte -/
theorem code_word {y : MethodName} {bytes : ByteArray} {mx : Nat} {rt : Option FieldType} {a : Array Value} {s : State} {m : MethodId} {meth : Method} {c : Code} (h1 : s.methodNamed? y = some m) (h2 : s.vm.method? m = some meth) (h3 : meth.code = some c) (h4 : c.code = bytes)
    (h5 : (c.maxLocals == mx && c.exceptionTable.isEmpty && decide (c.maxStack ≤ mostOperands) && decide (meth.sig.returnType = rt) && !meth.locks && decide (parseMethodDescriptor y.desc = some meth.sig)) = true) : (Jvm.Cond.code y bytes mx rt).before a s = true := by
  simp only [Bool.and_eq_true, beq_iff_eq, Bool.not_eq_true', decide_eq_true_eq] at h5
  obtain ⟨⟨⟨⟨⟨g1, g2⟩, g3⟩, g4⟩, g5⟩, g6⟩ := h5
  simp [Cond.before, Cond.holds, Cond.value, h1, h2, h3, h4, g1, g2, g3, g4, g5, g6]
def isCode : Jvm.Cond → Bool
  | .code _ _ _ _ => true
  | _ => false
theorem all_split {L : List Jvm.Cond} {P : Jvm.Cond → Bool} (h1 : L.all (fun c => isCode c || P c) = true) (h2 : ∀ c ∈ L.filter isCode, P c = true) : L.all P = true := by
  refine List.all_eq_true.mpr fun c hc => ?_
  have h := List.all_eq_true.mp h1 c hc
  rcases Bool.eq_false_or_eq_true (isCode c) with hi | hi
  · exact h2 c (List.mem_filter.mpr ⟨hc, hi⟩)
  · simpa [hi] using h
set_option maxRecDepth 65536 in
theorem w_c0 : (Jvm.Cond.code x code maxLocals ret).before args0 about1 = true := code_word (m := ⟨1, 1⟩) (meth := k1m1) (c := k1c1) (by decide +kernel) rfl rfl rfl (by decide +kernel)
set_option maxRecDepth 65536 in
theorem w_c1 : (Jvm.Cond.code ({ cls := "com/example/nestwarden/nestwarden/node/RowLocks$Mode", name := "conflicts", desc := "(Lcom/example/nestwarden/nestwarden/node/RowLocks$Mode;)Z" } : Jvm.MethodName) prog_41_method_4_code (2 : Nat) (Option.some Jvm.ClassFile.FieldType.boolean)).before args0 about1 = true := code_word (m := ⟨6, 0⟩) (meth := k6m0) (c := k6c0) (by decide +kernel) rfl rfl rfl (by decide +kernel)
def codes1 : List Jvm.Cond := [Jvm.Cond.code x code maxLocals ret, Jvm.Cond.code ({ cls := "com/example/nestwarden/nestwarden/node/RowLocks$Mode", name := "conflicts", desc := "(Lcom/example/nestwarden/nestwarden/node/RowLocks$Mode;)Z" } : Jvm.MethodName) prog_41_method_4_code (2 : Nat) (Option.some Jvm.ClassFile.FieldType.boolean)]
set_option maxRecDepth 65536 in
theorem codes_eq : words1.filter isCode = codes1 := rfl
theorem w_codes : ∀ c ∈ words1.filter isCode, c.before args0 about1 = true := by
  rw [codes_eq]
  intro c hc
  simp only [codes1, List.mem_cons, List.not_mem_nil, or_false] at hc
  rcases hc with rfl | rfl
  · exact w_c0
  · exact w_c1
set_option maxRecDepth 65536 in
theorem w_t1 : words1.all (fun c => isCode c || c.before args0 about1) = true := by decide +kernel
theorem w_tables : (allAtoms (Jvm.Cond.code x code maxLocals ret :: tables_1)).before args0 about1 = true := by
  rw [allAtoms_all]
  show words1.all (fun c => c.before args0 about1) = true
  refine all_split ?_ w_codes
  rw [w_t1]
set_option maxRecDepth 65536 in
theorem w_case : (Jvm.Cond.and given_1 narrow_1).before args0 about1 = true := by decide +kernel
theorem w_applies : (headSpec (Jvm.Cond.code x code maxLocals ret :: tables_1) room_1).applies x e0.platform about1 = true :=
  (Spec.applies_iff w_frames).mpr ⟨w_running, w_runnable, w_alone, w_named, w_hears, w_ripe, w_room, w_tables⟩
theorem atStart : AtStart classFile x code maxLocals ret World_1 tables_1 room_1 Calls_1 rest_1 Pre_1 launch0 p0 e0 about1 theMethod args0 below0 :=
  ⟨lists_1, trivial, launch0.admits_env _ _ _, launch0.least_env, fairChoices_fair.cas, fairChoices_fair.clock, w_frames, w_args, w_heap, w_applies, trivial, trivial, w_case⟩
end start1
theorem witness_1 : WitnessClaimed_1 := ⟨start1.p0, start1.e0, start1.about1, start1.theMethod, start1.args0, start1.below0, start1.atStart⟩
end Jvm.Pilot.@@N@@
