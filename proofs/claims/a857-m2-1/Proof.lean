import JvmDerived
import JvmDerived.Pilot.@@N@@Statement
import JvmDerived.Pilot.@@N@@Code
set_option linter.unusedVariables false
set_option linter.unusedSimpArgs false
set_option maxRecDepth 65536
namespace Jvm.Pilot.@@N@@
open Jvm Jvm.ClassFile Sem Op Lib Jvm.Free Jvm.Stand Jvm.LawKit Jvm.RoadKit Bundle Jvm.Pilot.@@N@@.Jvm.D
section OwnKit
variable {p : Program} {l : Launch} {e : Env} {R : Room} {s : State} {m : MethodId} {args : Array Value} {below : List Frame} {meth : Method} {c : Code} {T : State} {locs : List Loc} {cells slots : Nat}
theorem own_retI (X : Stand p l e R s m args below meth c T locs cells slots) (hx : p.tables.exec = Jvm.exec) {pc : Nat} {Ls : Array Slot} {z : Int32} {rest : List Value} (hret : meth.sig.returnType = some .int) (hd : decode c.code pc = .ok (.ireturn, 1)) {fs : List Frame}
    (hl : ∀ (f : JFrame) (acts : List Action), f.method = m → f.locked = none → f.entered = [] → (doReturn e (T.setTop f) acts (some (.int z))).1 = T.setFrames fs) : Steps p.tables e below (T.setTop (mkF m pc Ls (.int z :: rest))) (T.setFrames fs) := by
  have hm' : T.vm.method? m = some meth := X.method'
  have hn : narrow .int (.int z) = .int z := rfl
  show Steps p.tables e below (T.setTop { method := m, pc := pc, locals := Ls, stack := _ :: rest, locked := none }) _
  jvm_step X.here [X.here.top, hx, hd, hm', hret, hn]
  first | (intro acts; rw [hl _ acts rfl rfl rfl]) | rw [hl _ _ rfl rfl rfl]
  exact Steps.refl _
/-- where the run stands, with the same writes and figures as at X -/
abbrev own_like (_ : Stand p l e R s m args below meth c T locs cells slots) (T' : State) : Prop := Stand p l e R s m args below meth c T' locs cells slots
end OwnKit
theorem own_Llt {a b : Int64} (h : a < b) : ifCond.holds .lt (lcmpW a b) = true ∧ ifCond.holds .ge (lcmpW a b) = false ∧ ifCond.holds .gt (lcmpW b a) = true ∧ ifCond.holds .le (lcmpW b a) = false := by
  simp only [if0]
  exact ⟨(tlt ((lw_lt a b).mpr h)).1, (tlt ((lw_lt a b).mpr h)).2.1, (tlt ((lw_gt b a).mpr h)).2.2.1, (tlt ((lw_gt b a).mpr h)).2.2.2⟩
theorem own_Lnl {a b : Int64} (h : ¬ a < b) : ifCond.holds .lt (lcmpW a b) = false ∧ ifCond.holds .ge (lcmpW a b) = true ∧ ifCond.holds .gt (lcmpW b a) = false ∧ ifCond.holds .le (lcmpW b a) = true := by
  simp only [if0]
  have h1 : ¬ lcmpW a b < 0 := fun q => h ((lw_lt a b).mp q)
  have h2 : ¬ 0 < lcmpW b a := fun q => h ((lw_gt b a).mp q)
  exact ⟨(flt h1).1, (flt h1).2.1, (flt h2).2.2.1, (flt h2).2.2.2⟩
theorem own_Leq {a b : Int64} (h : a = b) : ifCond.holds .eq (lcmpW a b) = true ∧ ifCond.holds .ne (lcmpW a b) = false := by
  simp only [if0]
  exact teq ((lw_eq a b).mpr h)
theorem own_Lne {a b : Int64} (h : ¬ a = b) : ifCond.holds .eq (lcmpW a b) = false ∧ ifCond.holds .ne (lcmpW a b) = true := by
  simp only [if0]
  exact feq fun q => h ((lw_eq a b).mp q)
theorem own_StaK {Z : State} {h h' : Heap} {C n d : String} {v : Value} {ws : List Addr} (F : Sta Z h C n d v) (K : Keep h h' ws) (q : ∀ x ∈ ws, ∃ c : Cell, h[x]? = some c ∧ c.vm.isStatics = false) : Sta Z h' C n d v := by
  obtain ⟨cf, i, k, f, st, cell, h1, h2, h3, h4, h5, h6, h7⟩ := F
  refine ⟨cf, i, k, f, st, cell, h1, h2, h3, h4, K.2.1 st cell h5 (fun hm => ?_), h6, h7⟩
  obtain ⟨c, e1, e2⟩ := q _ hm
  rw [h5] at e1
  cases e1
  rw [h6] at e2
  cases e2
theorem own_ExaS {Z : State} {h : Heap} {a : Addr} {C : String} (E : Exa Z h a C) : ∃ c : Cell, h[a]? = some c ∧ c.vm.isStatics = false := by
  obtain ⟨c, k, e1, -, -, e2, -⟩ := E
  exact ⟨c, e1, e2⟩
/-- a boolean as the JVM's int -/
def own_b (b : Bool) : Int32 := if b then 1 else 0
theorem own_b_t : own_b true = 1 := rfl
theorem own_b_f : own_b false = 0 := rfl
theorem own_b0 {b : Bool} : own_b b = 0 ↔ b = false := by cases b <;> decide
theorem own_b_inj {b c : Bool} : own_b b = own_b c ↔ b = c := by cases b <;> cases c <;> decide
theorem own_leafT {b : Bool} (h : b = true) : (some (.int (nar .boolean (1 : Int32))) : Option Value) = some (.int (own_b b)) := by subst h; rfl
theorem own_leafF {b : Bool} (h : b = false) : (some (.int (nar .boolean (0 : Int32))) : Option Value) = some (.int (own_b b)) := by subst h; rfl
theorem own_bt {b : Bool} (h : b = true) : (1 : Int32) = own_b b := by subst h; rfl
theorem own_bf {b : Bool} (h : b = false) : (0 : Int32) = own_b b := by subst h; rfl
theorem own_b_nar (b : Bool) : nar .boolean (own_b b) = own_b b := by cases b <;> rfl
def own_em (l t r b : Int32) : Bool := decide (¬ l < r ∨ ¬ t < b)
def own_cv (l t r b x y : Int32) : Bool := decide (¬ x < l ∧ x < r ∧ ¬ y < t ∧ y < b)
theorem own_p1 {l t r b x y : Int32} (h : ¬ own_b (own_em l t r b) = (0 : Int32)) : own_b (own_cv l t r b x y) = (0 : Int32) := by
  rw [own_b0] at h ⊢
  simp only [own_em, own_cv, decide_eq_false_iff_not, Int32.lt_iff_toInt_lt] at h ⊢
  omega
theorem own_lt {l t r b : Int32} (h : own_b (own_em l t r b) = (0 : Int32)) : l < r ∧ t < b := by
  rw [own_b0] at h
  simp only [own_em, decide_eq_false_iff_not, Int32.lt_iff_toInt_lt] at h ⊢
  omega
theorem own_p2 {l t r b : Int32} (h : own_b (own_em l t r b) = (0 : Int32)) : ¬ own_b (own_cv l t r b l t) = (0 : Int32) := by
  have q := own_lt h
  rw [own_b0]
  simp only [own_cv, decide_eq_false_iff_not, Int32.lt_iff_toInt_lt] at q ⊢
  omega
theorem own_p3 {l t r b : Int32} (h : own_b (own_em l t r b) = (0 : Int32)) : ¬ own_b (own_cv l t r b (r - (1 : Int32)) (b - (1 : Int32))) = (0 : Int32) := by
  have q := own_lt h
  have a1 := c_isub r 1
  have a2 := c_isub b 1
  have r1 := rng32 (r - 1)
  have r2 := rng32 (b - 1)
  have r3 := rng32 r
  have r4 := rng32 b
  have r5 := rng32 l
  have r6 := rng32 t
  have z : (1 : Int32).toInt = 1 := rfl
  rw [own_b0]
  simp only [own_cv, decide_eq_false_iff_not, Int32.lt_iff_toInt_lt] at q ⊢
  omega
theorem own_d2_0 : decode jdk_30_method_1_code 0 = .ok (.aload_n 0, 1) := by decide +kernel
theorem own_d2_1 : decode jdk_30_method_1_code 1 = .ok (.invokespecial 1, 3) := by decide +kernel
theorem own_d2_4 : decode jdk_30_method_1_code 4 = .ok (.return_, 1) := by decide +kernel
theorem own_ef2 (m : MethodId) (x0 : Addr) : entryFrame m #[(.ref x0)] 1 = mkF m 0 #[.val (.ref x0)] [] := by first | (simp [entryFrame, mkF, argsToLocals, Value.category]; done) | rfl
def own_Q2 (Z : State) (a : Addr) (h0 : Heap) (n0 : Nat) (v : Option Value) (h : Heap) (L : List Loc) : Prop := v = none ∧ L = [] ∧ h = h0
theorem own_pn0 : plainName "java/lang/Record" = true := by first | (simp [plainName, overriddenIn]; done) | decide +kernel
set_option maxHeartbeats 40000000 in
theorem own_rm2 (l : Launch) (Z : State) (a0 : Array Value) (hw : ∀ d ∈ tables_1, d.before a0 Z = true) (ws : List Jvm.Cond) (a : Addr) (h0 : Heap) (n0 : Nat) (Z0 : n0 ≤ h0.size) :
    MetFree l (⟨"java/lang/Record", "<init>", "()V"⟩ : MethodName) (head1 (Jvm.Cond.code (⟨"java/lang/Record", "<init>", "()V"⟩ : MethodName) jdk_30_method_1_code 1 none :: ws) ({ frames := 1, cells := 0, slots := 0, locals := 12 } : Room)) (fun argv U => argv = #[(.ref a)] ∧ Z.Warmed39 U.vm ∧ U.heap = h0) (fun _ _ _ _ _ => True) (fun _ U o U' => ∃ v L, o = .returned v ∧ own_Q2 Z a h0 n0 v U'.heap L ∧ FrameEnd U o U' L ({ frames := 1, cells := 0, slots := 0, locals := 12 } : Room).cells ({ frames := 1, cells := 0, slots := 0, locals := 12 } : Room).slots) := by
  refine MetFree.of_bodySF (plainFor_of_name own_pn0) hisR ?_
  intro p e s m args below meth c s₁ Bd hml0 hP hK
  obtain ⟨rfl, hZ, hh⟩ := hP
  have hx := Bd.exec
  have hby := Bd.bytes
  have hml : c.maxLocals = 1 := hml0
  have hown : s.vm.findClass "java/lang/Record" = some m.cls := findClass_of_methodNamed Bd.named
  have hnm := (name_of_methodNamed Bd.named Bd.method).1
  have X0 : Stand p l e ({ frames := 1, cells := 0, slots := 0, locals := 12 } : Room) s m #[(.ref a)] below meth c s₁ [] 0 0 := Stand.of_body Bd
  have e0 : s₁.heap = h0 := by rw [← hh, Bd.state]; rfl
  have N0 := Fr.nil n0
  have pre0 : ∀ t, Steps p.tables e below (s₁.setTop (mkF m 0 #[.val (.ref a)] [])) t → Steps p.tables e below (s₁.setTop (entryFrame m #[(.ref a)] 1)) t := fun t k => castTop (own_ef2 m a) k
  have S1 : ∀ t, Steps p.tables e below (s₁.setTop (mkF m 1 #[.val (.ref a)] [(.ref a)])) t → Steps p.tables e below (s₁.setTop (entryFrame m #[(.ref a)] 1)) t := fun t kt => by
    refine pre0 t ?_
    show Steps p.tables e below (s₁.setTop (mkF m 0 #[.val (.ref a)] [])) t
    refine XS.aloadN X0.here hx rfl (hb hby own_d2_0) rfl rfl ?_
    exact kt
  obtain ⟨T2, X2, e2, st2⟩ := initO X0 hx hZ hown (hw _ (List.mem_of_getElem? (i := 11) rfl)) (hw _ (List.mem_of_getElem? (i := 12) rfl)) (hw _ (List.mem_of_getElem? (i := 13) rfl)) e0 (g := (mkF m 1 #[.val (.ref a)] [(.ref a)])) rfl (by rw [hml]; rfl) rfl (hb hby own_d2_1) (by decide) (W := 0) (by show 2 * 0 + _ ≤ _; exact Nat.le_of_eq rfl) (by decide)
  have S3 : ∀ t, Steps p.tables e below (T2.setTop (mkF m 4 #[.val (.ref a)] [])) t → Steps p.tables e below (s₁.setTop (entryFrame m #[(.ref a)] 1)) t := fun t kt => S1 t (st2 _ kt)
  obtain ⟨fs, hr, hrun, hended, hW, hsame⟩ := X2.leave (v := none) (fun _ => rfl)
  refine ⟨_, _, S3 _ ?_, hrun, hended, _, _, rfl, ?_, ⟨_, rfl⟩, hW, hsame.mono (by decide) (by decide)⟩
  · show Steps p.tables e below (T2.setTop (mkF m 4 #[.val (.ref a)] [])) _
    exact X2.returnOut hx Bd.returns (hb hby own_d2_4) hr
  · show own_Q2 Z a h0 n0 _ T2.heap _
    rw [e2]
    exact ⟨rfl, rfl, rfl⟩
theorem own_pd0 : parseMethodDescriptor "()V" = some ⟨[], none⟩ := by decide +kernel
theorem own_d1_0 : decode prog_17_method_1_code 0 = .ok (.aload_n 0, 1) := by decide +kernel
theorem own_d1_1 : decode prog_17_method_1_code 1 = .ok (.invokespecial 1, 3) := by decide +kernel
theorem own_d1_4 : decode prog_17_method_1_code 4 = .ok (.aload_n 0, 1) := by decide +kernel
theorem own_d1_5 : decode prog_17_method_1_code 5 = .ok (.iload_n 1, 1) := by decide +kernel
theorem own_d1_6 : decode prog_17_method_1_code 6 = .ok (.putfield 7, 3) := by decide +kernel
theorem own_d1_9 : decode prog_17_method_1_code 9 = .ok (.aload_n 0, 1) := by decide +kernel
theorem own_d1_10 : decode prog_17_method_1_code 10 = .ok (.iload_n 2, 1) := by decide +kernel
theorem own_d1_11 : decode prog_17_method_1_code 11 = .ok (.putfield 13, 3) := by decide +kernel
theorem own_d1_14 : decode prog_17_method_1_code 14 = .ok (.aload_n 0, 1) := by decide +kernel
theorem own_d1_15 : decode prog_17_method_1_code 15 = .ok (.iload_n 3, 1) := by decide +kernel
theorem own_d1_16 : decode prog_17_method_1_code 16 = .ok (.putfield 16, 3) := by decide +kernel
theorem own_d1_19 : decode prog_17_method_1_code 19 = .ok (.aload_n 0, 1) := by decide +kernel
theorem own_d1_20 : decode prog_17_method_1_code 20 = .ok (.iload 4, 2) := by decide +kernel
theorem own_d1_22 : decode prog_17_method_1_code 22 = .ok (.putfield 19, 3) := by decide +kernel
theorem own_d1_25 : decode prog_17_method_1_code 25 = .ok (.return_, 1) := by decide +kernel
theorem own_ef1 (m : MethodId) (x0 : Addr) (x1 : Int32) (x2 : Int32) (x3 : Int32) (x4 : Int32) : entryFrame m #[(.ref x0), (.int x1), (.int x2), (.int x3), (.int x4)] 5 = mkF m 0 #[.val (.ref x0), .val (.int x1), .val (.int x2), .val (.int x3), .val (.int x4)] [] := by first | (simp [entryFrame, mkF, argsToLocals, Value.category]; done) | rfl
def own_Q1 (Z : State) (a : Addr) (x1 : Int32) (x2 : Int32) (x3 : Int32) (x4 : Int32) (u0 : Value) (u1 : Value) (u2 : Value) (u3 : Value) (h0 : Heap) (n0 : Nat) (v : Option Value) (h : Heap) (L : List Loc) : Prop := v = none ∧ Fr n0 L ∧ Keep h0 h [a] ∧ Exa Z h a "com/example/mullion/mullion/model/Bounds" ∧ Fld Z h a "com/example/mullion/mullion/model/Bounds" "left" "I" (.int x1) ∧ Fld Z h a "com/example/mullion/mullion/model/Bounds" "top" "I" (.int x2) ∧ Fld Z h a "com/example/mullion/mullion/model/Bounds" "right" "I" (.int x3) ∧ Fld Z h a "com/example/mullion/mullion/model/Bounds" "bottom" "I" (.int x4)
theorem own_pn1 : plainName "com/example/mullion/mullion/model/Bounds" = true := by first | (simp [plainName, overriddenIn]; done) | decide +kernel
set_option maxHeartbeats 40000000 in
theorem own_rm1 (l : Launch) (Z : State) (a0 : Array Value) (hw : ∀ d ∈ tables_1, d.before a0 Z = true) (ws : List Jvm.Cond) (a : Addr) (x1 : Int32) (x2 : Int32) (x3 : Int32) (x4 : Int32) (u0 : Value) (u1 : Value) (u2 : Value) (u3 : Value) (h0 : Heap) (n0 : Nat) (Z0 : n0 ≤ h0.size) (E_a : Exa Z h0 a "com/example/mullion/mullion/model/Bounds") (g_a : n0 ≤ a) (F_left : Fld Z h0 a "com/example/mullion/mullion/model/Bounds" "left" "I" u0) (F_top : Fld Z h0 a "com/example/mullion/mullion/model/Bounds" "top" "I" u1) (F_right : Fld Z h0 a "com/example/mullion/mullion/model/Bounds" "right" "I" u2) (F_bottom : Fld Z h0 a "com/example/mullion/mullion/model/Bounds" "bottom" "I" u3) :
    MetFree l (⟨"com/example/mullion/mullion/model/Bounds", "<init>", "(IIII)V"⟩ : MethodName) (head1 (Jvm.Cond.code (⟨"com/example/mullion/mullion/model/Bounds", "<init>", "(IIII)V"⟩ : MethodName) prog_17_method_1_code 5 none :: ws) ({ frames := 2, cells := 0, slots := 0, locals := 24 } : Room)) (fun argv U => argv = #[(.ref a), (.int x1), (.int x2), (.int x3), (.int x4)] ∧ Z.Warmed39 U.vm ∧ U.heap = h0) (fun _ _ _ _ _ => True) (fun _ U o U' => ∃ v L, o = .returned v ∧ own_Q1 Z a x1 x2 x3 x4 u0 u1 u2 u3 h0 n0 v U'.heap L ∧ FrameEnd U o U' L ({ frames := 2, cells := 0, slots := 0, locals := 24 } : Room).cells ({ frames := 2, cells := 0, slots := 0, locals := 24 } : Room).slots) := by
  refine MetFree.of_bodySF (plainFor_of_name own_pn1) hisR ?_
  intro p e s m args below meth c s₁ Bd hml0 hP hK
  obtain ⟨rfl, hZ, hh⟩ := hP
  have hx := Bd.exec
  have hby := Bd.bytes
  have hml : c.maxLocals = 5 := hml0
  have hown : s.vm.findClass "com/example/mullion/mullion/model/Bounds" = some m.cls := findClass_of_methodNamed Bd.named
  have hnm := (name_of_methodNamed Bd.named Bd.method).1
  have X0 : Stand p l e ({ frames := 2, cells := 0, slots := 0, locals := 24 } : Room) s m #[(.ref a), (.int x1), (.int x2), (.int x3), (.int x4)] below meth c s₁ [] 0 0 := Stand.of_body Bd
  have e0 : s₁.heap = h0 := by rw [← hh, Bd.state]; rfl
  have N0 := Fr.nil n0
  have pre0 : ∀ t, Steps p.tables e below (s₁.setTop (mkF m 0 #[.val (.ref a), .val (.int x1), .val (.int x2), .val (.int x3), .val (.int x4)] [])) t → Steps p.tables e below (s₁.setTop (entryFrame m #[(.ref a), (.int x1), (.int x2), (.int x3), (.int x4)] 5)) t := fun t k => castTop (own_ef1 m a x1 x2 x3 x4) k
  have S2 : ∀ t, Steps p.tables e below (s₁.setTop (mkF m 1 #[.val (.ref a), .val (.int x1), .val (.int x2), .val (.int x3), .val (.int x4)] [(.ref a)])) t → Steps p.tables e below (s₁.setTop (entryFrame m #[(.ref a), (.int x1), (.int x2), (.int x3), (.int x4)] 5)) t := fun t kt => by
    refine pre0 t ?_
    show Steps p.tables e below (s₁.setTop (mkF m 0 #[.val (.ref a), .val (.int x1), .val (.int x2), .val (.int x3), .val (.int x4)] [])) t
    refine XS.aloadN X0.here hx rfl (hb hby own_d1_0) rfl rfl ?_
    exact kt
  obtain ⟨_, _, ⟨T3, L3, k3, n3⟩, -, X3, ⟨Lc3, hQ3, l3, y3, z3⟩, st3⟩ := X0.specialBack hx (y := (⟨"java/lang/Record", "<init>", "()V"⟩ : MethodName)) rfl hown (mvT hZ (hw _ (List.mem_of_getElem? (i := 6) rfl))) (mvT hZ (hw _ (List.mem_of_getElem? (i := 7) rfl))) (mvT hZ (hw _ (List.mem_of_getElem? (i := 10) rfl))) (by decide) (backOf (W := 0) (own_rm2 l Z a0 hw [] (a) h0 n0 Z0) hZ (hw _ (List.mem_of_getElem? (i := 10) rfl)) (hw _ (List.mem_of_getElem? (i := 9) rfl)) (by decide) (by decide)) (g := (mkF m 1 #[.val (.ref a), .val (.int x1), .val (.int x2), .val (.int x3), .val (.int x4)] [(.ref a)])) rfl (by rw [hml]; rfl) (Steps.refl _) (a := a) (argsL := []) (rest := []) (lenOf own_pd0 rfl) rfl (by show 2 * 0 + _ ≤ _; exact Nat.le_of_eq rfl) (hb hby own_d1_1) (fun _ _ => ⟨rfl, e0, (by decide : 0 + 0 ≤ _), (by decide : 0 + 0 ≤ _)⟩)
  dsimp only [Pt.U, Pt.locs, Pt.cells, Pt.slots] at X3 l3 y3 z3 st3 hQ3
  subst l3 y3 z3
  obtain ⟨rfl, rfl, eq1⟩ := hQ3
  try rw [List.append_nil] at X3
  have S4 : ∀ t, Steps p.tables e below (T3.setTop (mkF m 4 #[.val (.ref a), .val (.int x1), .val (.int x2), .val (.int x3), .val (.int x4)] [])) t → Steps p.tables e below (s₁.setTop (entryFrame m #[(.ref a), (.int x1), (.int x2), (.int x3), (.int x4)] 5)) t := fun t kt => S2 t (st3.trans kt)
  have S5 : ∀ t, Steps p.tables e below (T3.setTop (mkF m 6 #[.val (.ref a), .val (.int x1), .val (.int x2), .val (.int x3), .val (.int x4)] [(.int x1), (.ref a)])) t → Steps p.tables e below (s₁.setTop (entryFrame m #[(.ref a), (.int x1), (.int x2), (.int x3), (.int x4)] 5)) t := fun t kt => by
    refine S4 t ?_
    show Steps p.tables e below (T3.setTop (mkF m 4 #[.val (.ref a), .val (.int x1), .val (.int x2), .val (.int x3), .val (.int x4)] [])) t
    refine XS.aloadN X3.here hx rfl (hb hby own_d1_4) rfl rfl ?_
    show Steps p.tables e below (T3.setTop (mkF m 5 #[.val (.ref a), .val (.int x1), .val (.int x2), .val (.int x3), .val (.int x4)] [(.ref a)])) t
    refine XS.iloadN X3.here hx rfl (hb hby own_d1_5) rfl ?_
    exact kt
  obtain ⟨T6, h6, X6, e6, W6, st6⟩ := putF X3 hx hZ hown (host := "") (Or.inl (hw _ (List.mem_of_getElem? (i := 14) rfl))) Via.refl eq1 F_left E_a (Or.inr ⟨(hw _ (List.mem_of_getElem? (i := 15) rfl)), rfl, hnm⟩) (hw _ (List.mem_of_getElem? (i := 1) rfl)) (ty := .int) (by decide) rfl rfl (g := (mkF m 6 #[.val (.ref a), .val (.int x1), .val (.int x2), .val (.int x3), .val (.int x4)] [(.int x1), (.ref a)])) rfl rfl (hb hby own_d1_6)
  have S7 : ∀ t, Steps p.tables e below (T6.setTop (mkF m 9 #[.val (.ref a), .val (.int x1), .val (.int x2), .val (.int x3), .val (.int x4)] [])) t → Steps p.tables e below (s₁.setTop (entryFrame m #[(.ref a), (.int x1), (.int x2), (.int x3), (.int x4)] 5)) t := fun t kt => S5 t (st6 _ kt)
  have F8 := E_a.wr W6
  have F9 := F_left.same W6
  have F10 := F_top.other W6 (Or.inr (slot_ne (Or.inr (hw _ (List.mem_of_getElem? (i := 17) rfl))) (Or.inr (hw _ (List.mem_of_getElem? (i := 15) rfl))) (by decide) (t := .int) (t' := .int) (by decide) (by decide)))
  have F11 := F_right.other W6 (Or.inr (slot_ne (Or.inr (hw _ (List.mem_of_getElem? (i := 19) rfl))) (Or.inr (hw _ (List.mem_of_getElem? (i := 15) rfl))) (by decide) (t := .int) (t' := .int) (by decide) (by decide)))
  have F12 := F_bottom.other W6 (Or.inr (slot_ne (Or.inr (hw _ (List.mem_of_getElem? (i := 21) rfl))) (Or.inr (hw _ (List.mem_of_getElem? (i := 15) rfl))) (by decide) (t := .int) (t' := .int) (by decide) (by decide)))
  have N13 := Fr.snoc X6 N0 g_a
  have K14 : Keep h0 h6 [a] := (Keep.refl h0 [a]).wr W6 (Or.inl (List.mem_of_getElem? (i := 0) rfl))
  have S15 : ∀ t, Steps p.tables e below (T6.setTop (mkF m 11 #[.val (.ref a), .val (.int x1), .val (.int x2), .val (.int x3), .val (.int x4)] [(.int x2), (.ref a)])) t → Steps p.tables e below (s₁.setTop (entryFrame m #[(.ref a), (.int x1), (.int x2), (.int x3), (.int x4)] 5)) t := fun t kt => by
    refine S7 t ?_
    show Steps p.tables e below (T6.setTop (mkF m 9 #[.val (.ref a), .val (.int x1), .val (.int x2), .val (.int x3), .val (.int x4)] [])) t
    refine XS.aloadN X6.here hx rfl (hb hby own_d1_9) rfl rfl ?_
    show Steps p.tables e below (T6.setTop (mkF m 10 #[.val (.ref a), .val (.int x1), .val (.int x2), .val (.int x3), .val (.int x4)] [(.ref a)])) t
    refine XS.iloadN X6.here hx rfl (hb hby own_d1_10) rfl ?_
    exact kt
  obtain ⟨T16, h16, X16, e16, W16, st16⟩ := putF X6 hx hZ hown (host := "") (Or.inl (hw _ (List.mem_of_getElem? (i := 16) rfl))) Via.refl e6 F10 F8 (Or.inr ⟨(hw _ (List.mem_of_getElem? (i := 17) rfl)), rfl, hnm⟩) (hw _ (List.mem_of_getElem? (i := 1) rfl)) (ty := .int) (by decide) rfl rfl (g := (mkF m 11 #[.val (.ref a), .val (.int x1), .val (.int x2), .val (.int x3), .val (.int x4)] [(.int x2), (.ref a)])) rfl rfl (hb hby own_d1_11)
  have S17 : ∀ t, Steps p.tables e below (T16.setTop (mkF m 14 #[.val (.ref a), .val (.int x1), .val (.int x2), .val (.int x3), .val (.int x4)] [])) t → Steps p.tables e below (s₁.setTop (entryFrame m #[(.ref a), (.int x1), (.int x2), (.int x3), (.int x4)] 5)) t := fun t kt => S15 t (st16 _ kt)
  have F18 := F8.wr W16
  have F19 := F9.other W16 (Or.inr (slot_ne (Or.inr (hw _ (List.mem_of_getElem? (i := 15) rfl))) (Or.inr (hw _ (List.mem_of_getElem? (i := 17) rfl))) (by decide) (t := .int) (t' := .int) (by decide) (by decide)))
  have F20 := F10.same W16
  have F21 := F11.other W16 (Or.inr (slot_ne (Or.inr (hw _ (List.mem_of_getElem? (i := 19) rfl))) (Or.inr (hw _ (List.mem_of_getElem? (i := 17) rfl))) (by decide) (t := .int) (t' := .int) (by decide) (by decide)))
  have F22 := F12.other W16 (Or.inr (slot_ne (Or.inr (hw _ (List.mem_of_getElem? (i := 21) rfl))) (Or.inr (hw _ (List.mem_of_getElem? (i := 17) rfl))) (by decide) (t := .int) (t' := .int) (by decide) (by decide)))
  have N23 := Fr.snoc X16 N13 g_a
  have K24 : Keep h0 h16 [a] := K14.wr W16 (Or.inl (List.mem_of_getElem? (i := 0) rfl))
  have S25 : ∀ t, Steps p.tables e below (T16.setTop (mkF m 16 #[.val (.ref a), .val (.int x1), .val (.int x2), .val (.int x3), .val (.int x4)] [(.int x3), (.ref a)])) t → Steps p.tables e below (s₁.setTop (entryFrame m #[(.ref a), (.int x1), (.int x2), (.int x3), (.int x4)] 5)) t := fun t kt => by
    refine S17 t ?_
    show Steps p.tables e below (T16.setTop (mkF m 14 #[.val (.ref a), .val (.int x1), .val (.int x2), .val (.int x3), .val (.int x4)] [])) t
    refine XS.aloadN X16.here hx rfl (hb hby own_d1_14) rfl rfl ?_
    show Steps p.tables e below (T16.setTop (mkF m 15 #[.val (.ref a), .val (.int x1), .val (.int x2), .val (.int x3), .val (.int x4)] [(.ref a)])) t
    refine XS.iloadN X16.here hx rfl (hb hby own_d1_15) rfl ?_
    exact kt
  obtain ⟨T26, h26, X26, e26, W26, st26⟩ := putF X16 hx hZ hown (host := "") (Or.inl (hw _ (List.mem_of_getElem? (i := 18) rfl))) Via.refl e16 F21 F18 (Or.inr ⟨(hw _ (List.mem_of_getElem? (i := 19) rfl)), rfl, hnm⟩) (hw _ (List.mem_of_getElem? (i := 1) rfl)) (ty := .int) (by decide) rfl rfl (g := (mkF m 16 #[.val (.ref a), .val (.int x1), .val (.int x2), .val (.int x3), .val (.int x4)] [(.int x3), (.ref a)])) rfl rfl (hb hby own_d1_16)
  have S27 : ∀ t, Steps p.tables e below (T26.setTop (mkF m 19 #[.val (.ref a), .val (.int x1), .val (.int x2), .val (.int x3), .val (.int x4)] [])) t → Steps p.tables e below (s₁.setTop (entryFrame m #[(.ref a), (.int x1), (.int x2), (.int x3), (.int x4)] 5)) t := fun t kt => S25 t (st26 _ kt)
  have F28 := F18.wr W26
  have F29 := F19.other W26 (Or.inr (slot_ne (Or.inr (hw _ (List.mem_of_getElem? (i := 15) rfl))) (Or.inr (hw _ (List.mem_of_getElem? (i := 19) rfl))) (by decide) (t := .int) (t' := .int) (by decide) (by decide)))
  have F30 := F20.other W26 (Or.inr (slot_ne (Or.inr (hw _ (List.mem_of_getElem? (i := 17) rfl))) (Or.inr (hw _ (List.mem_of_getElem? (i := 19) rfl))) (by decide) (t := .int) (t' := .int) (by decide) (by decide)))
  have F31 := F21.same W26
  have F32 := F22.other W26 (Or.inr (slot_ne (Or.inr (hw _ (List.mem_of_getElem? (i := 21) rfl))) (Or.inr (hw _ (List.mem_of_getElem? (i := 19) rfl))) (by decide) (t := .int) (t' := .int) (by decide) (by decide)))
  have N33 := Fr.snoc X26 N23 g_a
  have K34 : Keep h0 h26 [a] := K24.wr W26 (Or.inl (List.mem_of_getElem? (i := 0) rfl))
  have S35 : ∀ t, Steps p.tables e below (T26.setTop (mkF m 22 #[.val (.ref a), .val (.int x1), .val (.int x2), .val (.int x3), .val (.int x4)] [(.int x4), (.ref a)])) t → Steps p.tables e below (s₁.setTop (entryFrame m #[(.ref a), (.int x1), (.int x2), (.int x3), (.int x4)] 5)) t := fun t kt => by
    refine S27 t ?_
    show Steps p.tables e below (T26.setTop (mkF m 19 #[.val (.ref a), .val (.int x1), .val (.int x2), .val (.int x3), .val (.int x4)] [])) t
    refine XS.aloadN X26.here hx rfl (hb hby own_d1_19) rfl rfl ?_
    show Steps p.tables e below (T26.setTop (mkF m 20 #[.val (.ref a), .val (.int x1), .val (.int x2), .val (.int x3), .val (.int x4)] [(.ref a)])) t
    refine XS.iload X26.here hx rfl (hb hby own_d1_20) rfl ?_
    exact kt
  obtain ⟨T36, h36, X36, e36, W36, st36⟩ := putF X26 hx hZ hown (host := "") (Or.inl (hw _ (List.mem_of_getElem? (i := 20) rfl))) Via.refl e26 F32 F28 (Or.inr ⟨(hw _ (List.mem_of_getElem? (i := 21) rfl)), rfl, hnm⟩) (hw _ (List.mem_of_getElem? (i := 1) rfl)) (ty := .int) (by decide) rfl rfl (g := (mkF m 22 #[.val (.ref a), .val (.int x1), .val (.int x2), .val (.int x3), .val (.int x4)] [(.int x4), (.ref a)])) rfl rfl (hb hby own_d1_22)
  have S37 : ∀ t, Steps p.tables e below (T36.setTop (mkF m 25 #[.val (.ref a), .val (.int x1), .val (.int x2), .val (.int x3), .val (.int x4)] [])) t → Steps p.tables e below (s₁.setTop (entryFrame m #[(.ref a), (.int x1), (.int x2), (.int x3), (.int x4)] 5)) t := fun t kt => S35 t (st36 _ kt)
  have F38 := F28.wr W36
  have F39 := F29.other W36 (Or.inr (slot_ne (Or.inr (hw _ (List.mem_of_getElem? (i := 15) rfl))) (Or.inr (hw _ (List.mem_of_getElem? (i := 21) rfl))) (by decide) (t := .int) (t' := .int) (by decide) (by decide)))
  have F40 := F30.other W36 (Or.inr (slot_ne (Or.inr (hw _ (List.mem_of_getElem? (i := 17) rfl))) (Or.inr (hw _ (List.mem_of_getElem? (i := 21) rfl))) (by decide) (t := .int) (t' := .int) (by decide) (by decide)))
  have F41 := F31.other W36 (Or.inr (slot_ne (Or.inr (hw _ (List.mem_of_getElem? (i := 19) rfl))) (Or.inr (hw _ (List.mem_of_getElem? (i := 21) rfl))) (by decide) (t := .int) (t' := .int) (by decide) (by decide)))
  have F42 := F32.same W36
  have N43 := Fr.snoc X36 N33 g_a
  have K44 : Keep h0 h36 [a] := K34.wr W36 (Or.inl (List.mem_of_getElem? (i := 0) rfl))
  obtain ⟨fs, hr, hrun, hended, hW, hsame⟩ := X36.leave (v := none) (fun _ => rfl)
  refine ⟨_, _, S37 _ ?_, hrun, hended, _, _, rfl, ?_, ⟨_, rfl⟩, hW, hsame.mono (by decide) (by decide)⟩
  · show Steps p.tables e below (T36.setTop (mkF m 25 #[.val (.ref a), .val (.int x1), .val (.int x2), .val (.int x3), .val (.int x4)] [])) _
    exact X36.returnOut hx Bd.returns (hb hby own_d1_25) hr
  · show own_Q1 Z a x1 x2 x3 x4 u0 u1 u2 u3 h0 n0 _ T36.heap _
    rw [e36]
    exact ⟨rfl, N43, K44, F38, F39, F40, F41, F42⟩
theorem own_d5_0 : decode method_2_code 0 = .ok (.iload_n 0, 1) := by decide +kernel
theorem own_d5_1 : decode method_2_code 1 = .ok (.iload 4, 2) := by decide +kernel
theorem own_d5_3 : decode method_2_code 3 = .ok (.if_icmp .gt 25, 3) := by decide +kernel
theorem own_d5_6 : decode method_2_code 6 = .ok (.iload 4, 2) := by decide +kernel
theorem own_d5_8 : decode method_2_code 8 = .ok (.iload_n 2, 1) := by decide +kernel
theorem own_d5_9 : decode method_2_code 9 = .ok (.if_icmp .ge 19, 3) := by decide +kernel
theorem own_d5_12 : decode method_2_code 12 = .ok (.iload_n 1, 1) := by decide +kernel
theorem own_d5_13 : decode method_2_code 13 = .ok (.iload 5, 2) := by decide +kernel
theorem own_d5_15 : decode method_2_code 15 = .ok (.if_icmp .gt 13, 3) := by decide +kernel
theorem own_d5_18 : decode method_2_code 18 = .ok (.iload 5, 2) := by decide +kernel
theorem own_d5_20 : decode method_2_code 20 = .ok (.iload_n 3, 1) := by decide +kernel
theorem own_d5_21 : decode method_2_code 21 = .ok (.if_icmp .ge 7, 3) := by decide +kernel
theorem own_d5_24 : decode method_2_code 24 = .ok (.iconst 1, 1) := by decide +kernel
theorem own_d5_25 : decode method_2_code 25 = .ok (.goto 4, 3) := by decide +kernel
theorem own_d5_28 : decode method_2_code 28 = .ok (.iconst 0, 1) := by decide +kernel
theorem own_d5_29 : decode method_2_code 29 = .ok (.ireturn, 1) := by decide +kernel
theorem own_ef5 (m : MethodId) (x0 : Int32) (x1 : Int32) (x2 : Int32) (x3 : Int32) (x4 : Int32) (x5 : Int32) : entryFrame m #[(.int x0), (.int x1), (.int x2), (.int x3), (.int x4), (.int x5)] 6 = mkF m 0 #[.val (.int x0), .val (.int x1), .val (.int x2), .val (.int x3), .val (.int x4), .val (.int x5)] [] := by first | (simp [entryFrame, mkF, argsToLocals, Value.category]; done) | rfl
def own_Q5 (Z : State) (lf : Int32) (tp : Int32) (rg : Int32) (bt : Int32) (px : Int32) (py : Int32) (h0 : Heap) (n0 : Nat) (v : Option Value) (h : Heap) (L : List Loc) : Prop := v = some (.int (own_b (own_cv lf tp rg bt px py))) ∧ L = [] ∧ h = h0
theorem own_pn2 : plainName "com/example/mullion/mullion/model/BoundsIsEmptyPinLaw" = true := by first | (simp [plainName, overriddenIn]; done) | decide +kernel
set_option maxHeartbeats 40000000 in
theorem own_rm5 (l : Launch) (Z : State) (a0 : Array Value) (hw : ∀ d ∈ tables_1, d.before a0 Z = true) (ws : List Jvm.Cond) (lf : Int32) (tp : Int32) (rg : Int32) (bt : Int32) (px : Int32) (py : Int32) (h0 : Heap) (n0 : Nat) (Z0 : n0 ≤ h0.size) :
    MetFree l (⟨"com/example/mullion/mullion/model/BoundsIsEmptyPinLaw", "covers", "(IIIIII)Z"⟩ : MethodName) (head1 (Jvm.Cond.code (⟨"com/example/mullion/mullion/model/BoundsIsEmptyPinLaw", "covers", "(IIIIII)Z"⟩ : MethodName) method_2_code 6 (some .boolean) :: ws) ({ frames := 0, cells := 0, slots := 0, locals := 0 } : Room)) (fun argv U => argv = #[(.int lf), (.int tp), (.int rg), (.int bt), (.int px), (.int py)] ∧ Z.Warmed39 U.vm ∧ U.heap = h0) (fun _ _ _ _ _ => True) (fun _ U o U' => ∃ v L, o = .returned v ∧ own_Q5 Z lf tp rg bt px py h0 n0 v U'.heap L ∧ FrameEnd U o U' L ({ frames := 0, cells := 0, slots := 0, locals := 0 } : Room).cells ({ frames := 0, cells := 0, slots := 0, locals := 0 } : Room).slots) := by
  refine MetFree.of_bodySF (plainFor_of_name own_pn2) hisR ?_
  intro p e s m args below meth c s₁ Bd hml0 hP hK
  obtain ⟨rfl, hZ, hh⟩ := hP
  have hx := Bd.exec
  have hby := Bd.bytes
  have hml : c.maxLocals = 6 := hml0
  have hown : s.vm.findClass "com/example/mullion/mullion/model/BoundsIsEmptyPinLaw" = some m.cls := findClass_of_methodNamed Bd.named
  have hnm := (name_of_methodNamed Bd.named Bd.method).1
  have X0 : Stand p l e ({ frames := 0, cells := 0, slots := 0, locals := 0 } : Room) s m #[(.int lf), (.int tp), (.int rg), (.int bt), (.int px), (.int py)] below meth c s₁ [] 0 0 := Stand.of_body Bd
  have e0 : s₁.heap = h0 := by rw [← hh, Bd.state]; rfl
  have N0 := Fr.nil n0
  have pre0 : ∀ t, Steps p.tables e below (s₁.setTop (mkF m 0 #[.val (.int lf), .val (.int tp), .val (.int rg), .val (.int bt), .val (.int px), .val (.int py)] [])) t → Steps p.tables e below (s₁.setTop (entryFrame m #[(.int lf), (.int tp), (.int rg), (.int bt), (.int px), (.int py)] 6)) t := fun t k => castTop (own_ef5 m lf tp rg bt px py) k
  have S1 : ∀ t, Steps p.tables e below (s₁.setTop (mkF m 3 #[.val (.int lf), .val (.int tp), .val (.int rg), .val (.int bt), .val (.int px), .val (.int py)] [(.int px), (.int lf)])) t → Steps p.tables e below (s₁.setTop (entryFrame m #[(.int lf), (.int tp), (.int rg), (.int bt), (.int px), (.int py)] 6)) t := fun t kt => by
    refine pre0 t ?_
    show Steps p.tables e below (s₁.setTop (mkF m 0 #[.val (.int lf), .val (.int tp), .val (.int rg), .val (.int bt), .val (.int px), .val (.int py)] [])) t
    refine XS.iloadN X0.here hx rfl (hb hby own_d5_0) rfl ?_
    show Steps p.tables e below (s₁.setTop (mkF m 1 #[.val (.int lf), .val (.int tp), .val (.int rg), .val (.int bt), .val (.int px), .val (.int py)] [(.int lf)])) t
    refine XS.iload X0.here hx rfl (hb hby own_d5_1) rfl ?_
    exact kt
  by_cases hc3 : px < lf
  · skip
    have S2 : ∀ t, Steps p.tables e below (s₁.setTop (mkF m 29 #[.val (.int lf), .val (.int tp), .val (.int rg), .val (.int bt), .val (.int px), .val (.int py)] [(.int (0 : Int32))])) t → Steps p.tables e below (s₁.setTop (entryFrame m #[(.int lf), (.int tp), (.int rg), (.int bt), (.int px), (.int py)] 6)) t := fun t kt => by
      refine S1 t ?_
      show Steps p.tables e below (s₁.setTop (mkF m 3 #[.val (.int lf), .val (.int tp), .val (.int rg), .val (.int bt), .val (.int px), .val (.int py)] [(.int px), (.int lf)])) t
      refine XS.icmpYes X0.here hx rfl (pc0 := 3) (pc' := 28) rfl (hb hby own_d5_3) rfl (tlt hc3).2.2.1 (by decide) (by decide) ?_
      show Steps p.tables e below (s₁.setTop (mkF m 28 #[.val (.int lf), .val (.int tp), .val (.int rg), .val (.int bt), .val (.int px), .val (.int py)] [])) t
      refine XS.iconst X0.here hx rfl (hb hby own_d5_28) ?_
      exact kt
    obtain ⟨fs, hr, hrun, hended, hW, hsame⟩ := X0.leave (v := some (.int (nar .boolean (0 : Int32)))) (fun h => by rw [Bd.returns] at h; cases h)
    refine ⟨_, _, S2 _ ?_, hrun, hended, _, _, rfl, ?_, ⟨_, rfl⟩, hW, hsame.mono (by decide) (by decide)⟩
    · show Steps p.tables e below (s₁.setTop (mkF m 29 #[.val (.int lf), .val (.int tp), .val (.int rg), .val (.int bt), .val (.int px), .val (.int py)] [(.int (0 : Int32))])) _
      exact retN X0 hx (t := .boolean) Bd.returns (by simp) (hb hby own_d5_29) hr
    · show own_Q5 Z lf tp rg bt px py h0 n0 _ s₁.heap _
      rw [e0]
      exact ⟨own_leafF (by simp only [own_cv, decide_true, decide_false, not_true_eq_false, not_false_eq_true, and_true, true_and, and_false, false_and, and_self, or_true, true_or, or_false, false_or, or_self, if_true, if_false, Bool.not_true, Bool.not_false, Bool.and_true, Bool.true_and, Bool.and_false, Bool.false_and, *]), rfl, rfl⟩
  · skip
    have S3 : ∀ t, Steps p.tables e below (s₁.setTop (mkF m 9 #[.val (.int lf), .val (.int tp), .val (.int rg), .val (.int bt), .val (.int px), .val (.int py)] [(.int rg), (.int px)])) t → Steps p.tables e below (s₁.setTop (entryFrame m #[(.int lf), (.int tp), (.int rg), (.int bt), (.int px), (.int py)] 6)) t := fun t kt => by
      refine S1 t ?_
      show Steps p.tables e below (s₁.setTop (mkF m 3 #[.val (.int lf), .val (.int tp), .val (.int rg), .val (.int bt), .val (.int px), .val (.int py)] [(.int px), (.int lf)])) t
      refine XS.icmpNo X0.here hx rfl (hb hby own_d5_3) rfl (flt hc3).2.2.1 ?_
      show Steps p.tables e below (s₁.setTop (mkF m 6 #[.val (.int lf), .val (.int tp), .val (.int rg), .val (.int bt), .val (.int px), .val (.int py)] [])) t
      refine XS.iload X0.here hx rfl (hb hby own_d5_6) rfl ?_
      show Steps p.tables e below (s₁.setTop (mkF m 8 #[.val (.int lf), .val (.int tp), .val (.int rg), .val (.int bt), .val (.int px), .val (.int py)] [(.int px)])) t
      refine XS.iloadN X0.here hx rfl (hb hby own_d5_8) rfl ?_
      exact kt
    by_cases hc9 : px < rg
    · skip
      have S4 : ∀ t, Steps p.tables e below (s₁.setTop (mkF m 15 #[.val (.int lf), .val (.int tp), .val (.int rg), .val (.int bt), .val (.int px), .val (.int py)] [(.int py), (.int tp)])) t → Steps p.tables e below (s₁.setTop (entryFrame m #[(.int lf), (.int tp), (.int rg), (.int bt), (.int px), (.int py)] 6)) t := fun t kt => by
        refine S3 t ?_
        show Steps p.tables e below (s₁.setTop (mkF m 9 #[.val (.int lf), .val (.int tp), .val (.int rg), .val (.int bt), .val (.int px), .val (.int py)] [(.int rg), (.int px)])) t
        refine XS.icmpNo X0.here hx rfl (hb hby own_d5_9) rfl (tlt hc9).2.1 ?_
        show Steps p.tables e below (s₁.setTop (mkF m 12 #[.val (.int lf), .val (.int tp), .val (.int rg), .val (.int bt), .val (.int px), .val (.int py)] [])) t
        refine XS.iloadN X0.here hx rfl (hb hby own_d5_12) rfl ?_
        show Steps p.tables e below (s₁.setTop (mkF m 13 #[.val (.int lf), .val (.int tp), .val (.int rg), .val (.int bt), .val (.int px), .val (.int py)] [(.int tp)])) t
        refine XS.iload X0.here hx rfl (hb hby own_d5_13) rfl ?_
        exact kt
      by_cases hc15 : py < tp
      · skip
        have S5 : ∀ t, Steps p.tables e below (s₁.setTop (mkF m 29 #[.val (.int lf), .val (.int tp), .val (.int rg), .val (.int bt), .val (.int px), .val (.int py)] [(.int (0 : Int32))])) t → Steps p.tables e below (s₁.setTop (entryFrame m #[(.int lf), (.int tp), (.int rg), (.int bt), (.int px), (.int py)] 6)) t := fun t kt => by
          refine S4 t ?_
          show Steps p.tables e below (s₁.setTop (mkF m 15 #[.val (.int lf), .val (.int tp), .val (.int rg), .val (.int bt), .val (.int px), .val (.int py)] [(.int py), (.int tp)])) t
          refine XS.icmpYes X0.here hx rfl (pc0 := 15) (pc' := 28) rfl (hb hby own_d5_15) rfl (tlt hc15).2.2.1 (by decide) (by decide) ?_
          show Steps p.tables e below (s₁.setTop (mkF m 28 #[.val (.int lf), .val (.int tp), .val (.int rg), .val (.int bt), .val (.int px), .val (.int py)] [])) t
          refine XS.iconst X0.here hx rfl (hb hby own_d5_28) ?_
          exact kt
        obtain ⟨fs, hr, hrun, hended, hW, hsame⟩ := X0.leave (v := some (.int (nar .boolean (0 : Int32)))) (fun h => by rw [Bd.returns] at h; cases h)
        refine ⟨_, _, S5 _ ?_, hrun, hended, _, _, rfl, ?_, ⟨_, rfl⟩, hW, hsame.mono (by decide) (by decide)⟩
        · show Steps p.tables e below (s₁.setTop (mkF m 29 #[.val (.int lf), .val (.int tp), .val (.int rg), .val (.int bt), .val (.int px), .val (.int py)] [(.int (0 : Int32))])) _
          exact retN X0 hx (t := .boolean) Bd.returns (by simp) (hb hby own_d5_29) hr
        · show own_Q5 Z lf tp rg bt px py h0 n0 _ s₁.heap _
          rw [e0]
          exact ⟨own_leafF (by simp only [own_cv, decide_true, decide_false, not_true_eq_false, not_false_eq_true, and_true, true_and, and_false, false_and, and_self, or_true, true_or, or_false, false_or, or_self, if_true, if_false, Bool.not_true, Bool.not_false, Bool.and_true, Bool.true_and, Bool.and_false, Bool.false_and, *]), rfl, rfl⟩
      · skip
        have S6 : ∀ t, Steps p.tables e below (s₁.setTop (mkF m 21 #[.val (.int lf), .val (.int tp), .val (.int rg), .val (.int bt), .val (.int px), .val (.int py)] [(.int bt), (.int py)])) t → Steps p.tables e below (s₁.setTop (entryFrame m #[(.int lf), (.int tp), (.int rg), (.int bt), (.int px), (.int py)] 6)) t := fun t kt => by
          refine S4 t ?_
          show Steps p.tables e below (s₁.setTop (mkF m 15 #[.val (.int lf), .val (.int tp), .val (.int rg), .val (.int bt), .val (.int px), .val (.int py)] [(.int py), (.int tp)])) t
          refine XS.icmpNo X0.here hx rfl (hb hby own_d5_15) rfl (flt hc15).2.2.1 ?_
          show Steps p.tables e below (s₁.setTop (mkF m 18 #[.val (.int lf), .val (.int tp), .val (.int rg), .val (.int bt), .val (.int px), .val (.int py)] [])) t
          refine XS.iload X0.here hx rfl (hb hby own_d5_18) rfl ?_
          show Steps p.tables e below (s₁.setTop (mkF m 20 #[.val (.int lf), .val (.int tp), .val (.int rg), .val (.int bt), .val (.int px), .val (.int py)] [(.int py)])) t
          refine XS.iloadN X0.here hx rfl (hb hby own_d5_20) rfl ?_
          exact kt
        by_cases hc21 : py < bt
        · skip
          have S7 : ∀ t, Steps p.tables e below (s₁.setTop (mkF m 29 #[.val (.int lf), .val (.int tp), .val (.int rg), .val (.int bt), .val (.int px), .val (.int py)] [(.int (1 : Int32))])) t → Steps p.tables e below (s₁.setTop (entryFrame m #[(.int lf), (.int tp), (.int rg), (.int bt), (.int px), (.int py)] 6)) t := fun t kt => by
            refine S6 t ?_
            show Steps p.tables e below (s₁.setTop (mkF m 21 #[.val (.int lf), .val (.int tp), .val (.int rg), .val (.int bt), .val (.int px), .val (.int py)] [(.int bt), (.int py)])) t
            refine XS.icmpNo X0.here hx rfl (hb hby own_d5_21) rfl (tlt hc21).2.1 ?_
            show Steps p.tables e below (s₁.setTop (mkF m 24 #[.val (.int lf), .val (.int tp), .val (.int rg), .val (.int bt), .val (.int px), .val (.int py)] [])) t
            refine XS.iconst X0.here hx rfl (hb hby own_d5_24) ?_
            show Steps p.tables e below (s₁.setTop (mkF m 25 #[.val (.int lf), .val (.int tp), .val (.int rg), .val (.int bt), .val (.int px), .val (.int py)] [(.int (1 : Int32))])) t
            refine XS.goto X0.here hx rfl (pc0 := 25) (pc' := 29) rfl (hb hby own_d5_25) (by decide) (by decide) ?_
            exact kt
          obtain ⟨fs, hr, hrun, hended, hW, hsame⟩ := X0.leave (v := some (.int (nar .boolean (1 : Int32)))) (fun h => by rw [Bd.returns] at h; cases h)
          refine ⟨_, _, S7 _ ?_, hrun, hended, _, _, rfl, ?_, ⟨_, rfl⟩, hW, hsame.mono (by decide) (by decide)⟩
          · show Steps p.tables e below (s₁.setTop (mkF m 29 #[.val (.int lf), .val (.int tp), .val (.int rg), .val (.int bt), .val (.int px), .val (.int py)] [(.int (1 : Int32))])) _
            exact retN X0 hx (t := .boolean) Bd.returns (by simp) (hb hby own_d5_29) hr
          · show own_Q5 Z lf tp rg bt px py h0 n0 _ s₁.heap _
            rw [e0]
            exact ⟨own_leafT (by simp only [own_cv, decide_true, decide_false, not_true_eq_false, not_false_eq_true, and_true, true_and, and_false, false_and, and_self, or_true, true_or, or_false, false_or, or_self, if_true, if_false, Bool.not_true, Bool.not_false, Bool.and_true, Bool.true_and, Bool.and_false, Bool.false_and, *]), rfl, rfl⟩
        · skip
          have S8 : ∀ t, Steps p.tables e below (s₁.setTop (mkF m 29 #[.val (.int lf), .val (.int tp), .val (.int rg), .val (.int bt), .val (.int px), .val (.int py)] [(.int (0 : Int32))])) t → Steps p.tables e below (s₁.setTop (entryFrame m #[(.int lf), (.int tp), (.int rg), (.int bt), (.int px), (.int py)] 6)) t := fun t kt => by
            refine S6 t ?_
            show Steps p.tables e below (s₁.setTop (mkF m 21 #[.val (.int lf), .val (.int tp), .val (.int rg), .val (.int bt), .val (.int px), .val (.int py)] [(.int bt), (.int py)])) t
            refine XS.icmpYes X0.here hx rfl (pc0 := 21) (pc' := 28) rfl (hb hby own_d5_21) rfl (flt hc21).2.1 (by decide) (by decide) ?_
            show Steps p.tables e below (s₁.setTop (mkF m 28 #[.val (.int lf), .val (.int tp), .val (.int rg), .val (.int bt), .val (.int px), .val (.int py)] [])) t
            refine XS.iconst X0.here hx rfl (hb hby own_d5_28) ?_
            exact kt
          obtain ⟨fs, hr, hrun, hended, hW, hsame⟩ := X0.leave (v := some (.int (nar .boolean (0 : Int32)))) (fun h => by rw [Bd.returns] at h; cases h)
          refine ⟨_, _, S8 _ ?_, hrun, hended, _, _, rfl, ?_, ⟨_, rfl⟩, hW, hsame.mono (by decide) (by decide)⟩
          · show Steps p.tables e below (s₁.setTop (mkF m 29 #[.val (.int lf), .val (.int tp), .val (.int rg), .val (.int bt), .val (.int px), .val (.int py)] [(.int (0 : Int32))])) _
            exact retN X0 hx (t := .boolean) Bd.returns (by simp) (hb hby own_d5_29) hr
          · show own_Q5 Z lf tp rg bt px py h0 n0 _ s₁.heap _
            rw [e0]
            exact ⟨own_leafF (by simp only [own_cv, decide_true, decide_false, not_true_eq_false, not_false_eq_true, and_true, true_and, and_false, false_and, and_self, or_true, true_or, or_false, false_or, or_self, if_true, if_false, Bool.not_true, Bool.not_false, Bool.and_true, Bool.true_and, Bool.and_false, Bool.false_and, *]), rfl, rfl⟩
    · skip
      have S9 : ∀ t, Steps p.tables e below (s₁.setTop (mkF m 29 #[.val (.int lf), .val (.int tp), .val (.int rg), .val (.int bt), .val (.int px), .val (.int py)] [(.int (0 : Int32))])) t → Steps p.tables e below (s₁.setTop (entryFrame m #[(.int lf), (.int tp), (.int rg), (.int bt), (.int px), (.int py)] 6)) t := fun t kt => by
        refine S3 t ?_
        show Steps p.tables e below (s₁.setTop (mkF m 9 #[.val (.int lf), .val (.int tp), .val (.int rg), .val (.int bt), .val (.int px), .val (.int py)] [(.int rg), (.int px)])) t
        refine XS.icmpYes X0.here hx rfl (pc0 := 9) (pc' := 28) rfl (hb hby own_d5_9) rfl (flt hc9).2.1 (by decide) (by decide) ?_
        show Steps p.tables e below (s₁.setTop (mkF m 28 #[.val (.int lf), .val (.int tp), .val (.int rg), .val (.int bt), .val (.int px), .val (.int py)] [])) t
        refine XS.iconst X0.here hx rfl (hb hby own_d5_28) ?_
        exact kt
      obtain ⟨fs, hr, hrun, hended, hW, hsame⟩ := X0.leave (v := some (.int (nar .boolean (0 : Int32)))) (fun h => by rw [Bd.returns] at h; cases h)
      refine ⟨_, _, S9 _ ?_, hrun, hended, _, _, rfl, ?_, ⟨_, rfl⟩, hW, hsame.mono (by decide) (by decide)⟩
      · show Steps p.tables e below (s₁.setTop (mkF m 29 #[.val (.int lf), .val (.int tp), .val (.int rg), .val (.int bt), .val (.int px), .val (.int py)] [(.int (0 : Int32))])) _
        exact retN X0 hx (t := .boolean) Bd.returns (by simp) (hb hby own_d5_29) hr
      · show own_Q5 Z lf tp rg bt px py h0 n0 _ s₁.heap _
        rw [e0]
        exact ⟨own_leafF (by simp only [own_cv, decide_true, decide_false, not_true_eq_false, not_false_eq_true, and_true, true_and, and_false, false_and, and_self, or_true, true_or, or_false, false_or, or_self, if_true, if_false, Bool.not_true, Bool.not_false, Bool.and_true, Bool.true_and, Bool.and_false, Bool.false_and, *]), rfl, rfl⟩
theorem own_d4_0 : decode prog_17_method_2_code 0 = .ok (.aload_n 0, 1) := by decide +kernel
theorem own_d4_1 : decode prog_17_method_2_code 1 = .ok (.getfield 16, 3) := by decide +kernel
theorem own_d4_4 : decode prog_17_method_2_code 4 = .ok (.aload_n 0, 1) := by decide +kernel
theorem own_d4_5 : decode prog_17_method_2_code 5 = .ok (.getfield 7, 3) := by decide +kernel
theorem own_d4_8 : decode prog_17_method_2_code 8 = .ok (.if_icmp .le 14, 3) := by decide +kernel
theorem own_d4_11 : decode prog_17_method_2_code 11 = .ok (.aload_n 0, 1) := by decide +kernel
theorem own_d4_12 : decode prog_17_method_2_code 12 = .ok (.getfield 19, 3) := by decide +kernel
theorem own_d4_15 : decode prog_17_method_2_code 15 = .ok (.aload_n 0, 1) := by decide +kernel
theorem own_d4_16 : decode prog_17_method_2_code 16 = .ok (.getfield 13, 3) := by decide +kernel
theorem own_d4_19 : decode prog_17_method_2_code 19 = .ok (.if_icmp .gt 7, 3) := by decide +kernel
theorem own_d4_22 : decode prog_17_method_2_code 22 = .ok (.iconst 1, 1) := by decide +kernel
theorem own_d4_23 : decode prog_17_method_2_code 23 = .ok (.goto 4, 3) := by decide +kernel
theorem own_d4_26 : decode prog_17_method_2_code 26 = .ok (.iconst 0, 1) := by decide +kernel
theorem own_d4_27 : decode prog_17_method_2_code 27 = .ok (.ireturn, 1) := by decide +kernel
theorem own_ef4 (m : MethodId) (x0 : Addr) : entryFrame m #[(.ref x0)] 1 = mkF m 0 #[.val (.ref x0)] [] := by first | (simp [entryFrame, mkF, argsToLocals, Value.category]; done) | rfl
def own_Q4 (Z : State) (a : Addr) (lf : Int32) (tp : Int32) (rg : Int32) (bt : Int32) (h0 : Heap) (n0 : Nat) (v : Option Value) (h : Heap) (L : List Loc) : Prop := v = some (.int (own_b (own_em lf tp rg bt))) ∧ L = [] ∧ h = h0
set_option maxHeartbeats 40000000 in
theorem own_rm4 (l : Launch) (Z : State) (a0 : Array Value) (hw : ∀ d ∈ tables_1, d.before a0 Z = true) (ws : List Jvm.Cond) (a : Addr) (lf : Int32) (tp : Int32) (rg : Int32) (bt : Int32) (h0 : Heap) (n0 : Nat) (Z0 : n0 ≤ h0.size) (F_left_a : Fld Z h0 a "com/example/mullion/mullion/model/Bounds" "left" "I" (.int lf)) (F_top_a : Fld Z h0 a "com/example/mullion/mullion/model/Bounds" "top" "I" (.int tp)) (F_right_a : Fld Z h0 a "com/example/mullion/mullion/model/Bounds" "right" "I" (.int rg)) (F_bottom_a : Fld Z h0 a "com/example/mullion/mullion/model/Bounds" "bottom" "I" (.int bt)) :
    MetFree l (⟨"com/example/mullion/mullion/model/Bounds", "isEmpty", "()Z"⟩ : MethodName) (head1 (Jvm.Cond.code (⟨"com/example/mullion/mullion/model/Bounds", "isEmpty", "()Z"⟩ : MethodName) prog_17_method_2_code 1 (some .boolean) :: ws) ({ frames := 0, cells := 0, slots := 0, locals := 0 } : Room)) (fun argv U => argv = #[(.ref a)] ∧ Z.Warmed39 U.vm ∧ U.heap = h0) (fun _ _ _ _ _ => True) (fun _ U o U' => ∃ v L, o = .returned v ∧ own_Q4 Z a lf tp rg bt h0 n0 v U'.heap L ∧ FrameEnd U o U' L ({ frames := 0, cells := 0, slots := 0, locals := 0 } : Room).cells ({ frames := 0, cells := 0, slots := 0, locals := 0 } : Room).slots) := by
  refine MetFree.of_bodySF (plainFor_of_name own_pn1) hisR ?_
  intro p e s m args below meth c s₁ Bd hml0 hP hK
  obtain ⟨rfl, hZ, hh⟩ := hP
  have hx := Bd.exec
  have hby := Bd.bytes
  have hml : c.maxLocals = 1 := hml0
  have hown : s.vm.findClass "com/example/mullion/mullion/model/Bounds" = some m.cls := findClass_of_methodNamed Bd.named
  have hnm := (name_of_methodNamed Bd.named Bd.method).1
  have X0 : Stand p l e ({ frames := 0, cells := 0, slots := 0, locals := 0 } : Room) s m #[(.ref a)] below meth c s₁ [] 0 0 := Stand.of_body Bd
  have e0 : s₁.heap = h0 := by rw [← hh, Bd.state]; rfl
  have N0 := Fr.nil n0
  have pre0 : ∀ t, Steps p.tables e below (s₁.setTop (mkF m 0 #[.val (.ref a)] [])) t → Steps p.tables e below (s₁.setTop (entryFrame m #[(.ref a)] 1)) t := fun t k => castTop (own_ef4 m a) k
  have S1 : ∀ t, Steps p.tables e below (s₁.setTop (mkF m 1 #[.val (.ref a)] [(.ref a)])) t → Steps p.tables e below (s₁.setTop (entryFrame m #[(.ref a)] 1)) t := fun t kt => by
    refine pre0 t ?_
    show Steps p.tables e below (s₁.setTop (mkF m 0 #[.val (.ref a)] [])) t
    refine XS.aloadN X0.here hx rfl (hb hby own_d4_0) rfl rfl ?_
    exact kt
  obtain ⟨T2, X2, e2, st2⟩ := getF X0 hx hZ hown (host := "") (Or.inl (hw _ (List.mem_of_getElem? (i := 18) rfl))) Via.refl e0 F_right_a (g := (mkF m 1 #[.val (.ref a)] [(.ref a)])) rfl rfl (hb hby own_d4_1)
  have S3 : ∀ t, Steps p.tables e below (T2.setTop (mkF m 4 #[.val (.ref a)] [(.int rg)])) t → Steps p.tables e below (s₁.setTop (entryFrame m #[(.ref a)] 1)) t := fun t kt => S1 t (st2 _ kt)
  have S4 : ∀ t, Steps p.tables e below (T2.setTop (mkF m 5 #[.val (.ref a)] [(.ref a), (.int rg)])) t → Steps p.tables e below (s₁.setTop (entryFrame m #[(.ref a)] 1)) t := fun t kt => by
    refine S3 t ?_
    show Steps p.tables e below (T2.setTop (mkF m 4 #[.val (.ref a)] [(.int rg)])) t
    refine XS.aloadN X2.here hx rfl (hb hby own_d4_4) rfl rfl ?_
    exact kt
  obtain ⟨T5, X5, e5, st5⟩ := getF X2 hx hZ hown (host := "") (Or.inl (hw _ (List.mem_of_getElem? (i := 14) rfl))) Via.refl e2 F_left_a (g := (mkF m 5 #[.val (.ref a)] [(.ref a), (.int rg)])) rfl rfl (hb hby own_d4_5)
  have S6 : ∀ t, Steps p.tables e below (T5.setTop (mkF m 8 #[.val (.ref a)] [(.int lf), (.int rg)])) t → Steps p.tables e below (s₁.setTop (entryFrame m #[(.ref a)] 1)) t := fun t kt => S4 t (st5 _ kt)
  by_cases hc8 : lf < rg
  · skip
    have S7 : ∀ t, Steps p.tables e below (T5.setTop (mkF m 12 #[.val (.ref a)] [(.ref a)])) t → Steps p.tables e below (s₁.setTop (entryFrame m #[(.ref a)] 1)) t := fun t kt => by
      refine S6 t ?_
      show Steps p.tables e below (T5.setTop (mkF m 8 #[.val (.ref a)] [(.int lf), (.int rg)])) t
      refine XS.icmpNo X5.here hx rfl (hb hby own_d4_8) rfl (tlt hc8).2.2.2 ?_
      show Steps p.tables e below (T5.setTop (mkF m 11 #[.val (.ref a)] [])) t
      refine XS.aloadN X5.here hx rfl (hb hby own_d4_11) rfl rfl ?_
      exact kt
    obtain ⟨T8, X8, e8, st8⟩ := getF X5 hx hZ hown (host := "") (Or.inl (hw _ (List.mem_of_getElem? (i := 20) rfl))) Via.refl e5 F_bottom_a (g := (mkF m 12 #[.val (.ref a)] [(.ref a)])) rfl rfl (hb hby own_d4_12)
    have S9 : ∀ t, Steps p.tables e below (T8.setTop (mkF m 15 #[.val (.ref a)] [(.int bt)])) t → Steps p.tables e below (s₁.setTop (entryFrame m #[(.ref a)] 1)) t := fun t kt => S7 t (st8 _ kt)
    have S10 : ∀ t, Steps p.tables e below (T8.setTop (mkF m 16 #[.val (.ref a)] [(.ref a), (.int bt)])) t → Steps p.tables e below (s₁.setTop (entryFrame m #[(.ref a)] 1)) t := fun t kt => by
      refine S9 t ?_
      show Steps p.tables e below (T8.setTop (mkF m 15 #[.val (.ref a)] [(.int bt)])) t
      refine XS.aloadN X8.here hx rfl (hb hby own_d4_15) rfl rfl ?_
      exact kt
    obtain ⟨T11, X11, e11, st11⟩ := getF X8 hx hZ hown (host := "") (Or.inl (hw _ (List.mem_of_getElem? (i := 16) rfl))) Via.refl e8 F_top_a (g := (mkF m 16 #[.val (.ref a)] [(.ref a), (.int bt)])) rfl rfl (hb hby own_d4_16)
    have S12 : ∀ t, Steps p.tables e below (T11.setTop (mkF m 19 #[.val (.ref a)] [(.int tp), (.int bt)])) t → Steps p.tables e below (s₁.setTop (entryFrame m #[(.ref a)] 1)) t := fun t kt => S10 t (st11 _ kt)
    by_cases hc19 : tp < bt
    · skip
      have S13 : ∀ t, Steps p.tables e below (T11.setTop (mkF m 27 #[.val (.ref a)] [(.int (0 : Int32))])) t → Steps p.tables e below (s₁.setTop (entryFrame m #[(.ref a)] 1)) t := fun t kt => by
        refine S12 t ?_
        show Steps p.tables e below (T11.setTop (mkF m 19 #[.val (.ref a)] [(.int tp), (.int bt)])) t
        refine XS.icmpYes X11.here hx rfl (pc0 := 19) (pc' := 26) rfl (hb hby own_d4_19) rfl (tlt hc19).2.2.1 (by decide) (by decide) ?_
        show Steps p.tables e below (T11.setTop (mkF m 26 #[.val (.ref a)] [])) t
        refine XS.iconst X11.here hx rfl (hb hby own_d4_26) ?_
        exact kt
      obtain ⟨fs, hr, hrun, hended, hW, hsame⟩ := X11.leave (v := some (.int (nar .boolean (0 : Int32)))) (fun h => by rw [Bd.returns] at h; cases h)
      refine ⟨_, _, S13 _ ?_, hrun, hended, _, _, rfl, ?_, ⟨_, rfl⟩, hW, hsame.mono (by decide) (by decide)⟩
      · show Steps p.tables e below (T11.setTop (mkF m 27 #[.val (.ref a)] [(.int (0 : Int32))])) _
        exact retN X11 hx (t := .boolean) Bd.returns (by simp) (hb hby own_d4_27) hr
      · show own_Q4 Z a lf tp rg bt h0 n0 _ T11.heap _
        rw [e11]
        exact ⟨own_leafF (by simp only [own_em, decide_true, decide_false, not_true_eq_false, not_false_eq_true, and_true, true_and, and_false, false_and, and_self, or_true, true_or, or_false, false_or, or_self, if_true, if_false, Bool.not_true, Bool.not_false, Bool.and_true, Bool.true_and, Bool.and_false, Bool.false_and, *]), rfl, rfl⟩
    · skip
      have S14 : ∀ t, Steps p.tables e below (T11.setTop (mkF m 27 #[.val (.ref a)] [(.int (1 : Int32))])) t → Steps p.tables e below (s₁.setTop (entryFrame m #[(.ref a)] 1)) t := fun t kt => by
        refine S12 t ?_
        show Steps p.tables e below (T11.setTop (mkF m 19 #[.val (.ref a)] [(.int tp), (.int bt)])) t
        refine XS.icmpNo X11.here hx rfl (hb hby own_d4_19) rfl (flt hc19).2.2.1 ?_
        show Steps p.tables e below (T11.setTop (mkF m 22 #[.val (.ref a)] [])) t
        refine XS.iconst X11.here hx rfl (hb hby own_d4_22) ?_
        show Steps p.tables e below (T11.setTop (mkF m 23 #[.val (.ref a)] [(.int (1 : Int32))])) t
        refine XS.goto X11.here hx rfl (pc0 := 23) (pc' := 27) rfl (hb hby own_d4_23) (by decide) (by decide) ?_
        exact kt
      obtain ⟨fs, hr, hrun, hended, hW, hsame⟩ := X11.leave (v := some (.int (nar .boolean (1 : Int32)))) (fun h => by rw [Bd.returns] at h; cases h)
      refine ⟨_, _, S14 _ ?_, hrun, hended, _, _, rfl, ?_, ⟨_, rfl⟩, hW, hsame.mono (by decide) (by decide)⟩
      · show Steps p.tables e below (T11.setTop (mkF m 27 #[.val (.ref a)] [(.int (1 : Int32))])) _
        exact retN X11 hx (t := .boolean) Bd.returns (by simp) (hb hby own_d4_27) hr
      · show own_Q4 Z a lf tp rg bt h0 n0 _ T11.heap _
        rw [e11]
        exact ⟨own_leafT (by simp only [own_em, decide_true, decide_false, not_true_eq_false, not_false_eq_true, and_true, true_and, and_false, false_and, and_self, or_true, true_or, or_false, false_or, or_self, if_true, if_false, Bool.not_true, Bool.not_false, Bool.and_true, Bool.true_and, Bool.and_false, Bool.false_and, *]), rfl, rfl⟩
  · skip
    have S15 : ∀ t, Steps p.tables e below (T5.setTop (mkF m 27 #[.val (.ref a)] [(.int (1 : Int32))])) t → Steps p.tables e below (s₁.setTop (entryFrame m #[(.ref a)] 1)) t := fun t kt => by
      refine S6 t ?_
      show Steps p.tables e below (T5.setTop (mkF m 8 #[.val (.ref a)] [(.int lf), (.int rg)])) t
      refine XS.icmpYes X5.here hx rfl (pc0 := 8) (pc' := 22) rfl (hb hby own_d4_8) rfl (flt hc8).2.2.2 (by decide) (by decide) ?_
      show Steps p.tables e below (T5.setTop (mkF m 22 #[.val (.ref a)] [])) t
      refine XS.iconst X5.here hx rfl (hb hby own_d4_22) ?_
      show Steps p.tables e below (T5.setTop (mkF m 23 #[.val (.ref a)] [(.int (1 : Int32))])) t
      refine XS.goto X5.here hx rfl (pc0 := 23) (pc' := 27) rfl (hb hby own_d4_23) (by decide) (by decide) ?_
      exact kt
    obtain ⟨fs, hr, hrun, hended, hW, hsame⟩ := X5.leave (v := some (.int (nar .boolean (1 : Int32)))) (fun h => by rw [Bd.returns] at h; cases h)
    refine ⟨_, _, S15 _ ?_, hrun, hended, _, _, rfl, ?_, ⟨_, rfl⟩, hW, hsame.mono (by decide) (by decide)⟩
    · show Steps p.tables e below (T5.setTop (mkF m 27 #[.val (.ref a)] [(.int (1 : Int32))])) _
      exact retN X5 hx (t := .boolean) Bd.returns (by simp) (hb hby own_d4_27) hr
    · show own_Q4 Z a lf tp rg bt h0 n0 _ T5.heap _
      rw [e5]
      exact ⟨own_leafT (by simp only [own_em, decide_true, decide_false, not_true_eq_false, not_false_eq_true, and_true, true_and, and_false, false_and, and_self, or_true, true_or, or_false, false_or, or_self, if_true, if_false, Bool.not_true, Bool.not_false, Bool.and_true, Bool.true_and, Bool.and_false, Bool.false_and, *]), rfl, rfl⟩
theorem own_ef4z (m : MethodId) (x0 : Addr) : entryFrame m #[(.ref x0)] 1 = mkF m 0 #[.val (.ref x0)] [] := by first | (simp [entryFrame, mkF, argsToLocals, Value.category]; done) | rfl
def own_Q4z (Z : State) (a : Addr) (h0 : Heap) (n0 : Nat) (v : Option Value) (h : Heap) (L : List Loc) : Prop := v = some (.int (1 : Int32)) ∧ L = [] ∧ h = h0
set_option maxHeartbeats 40000000 in
theorem own_rm4z (l : Launch) (Z : State) (a0 : Array Value) (hw : ∀ d ∈ tables_1, d.before a0 Z = true) (ws : List Jvm.Cond) (a : Addr) (h0 : Heap) (n0 : Nat) (Z0 : n0 ≤ h0.size) (F_left_a : Fld Z h0 a "com/example/mullion/mullion/model/Bounds" "left" "I" (.int (0 : Int32))) (F_right_a : Fld Z h0 a "com/example/mullion/mullion/model/Bounds" "right" "I" (.int (0 : Int32))) :
    MetFree l (⟨"com/example/mullion/mullion/model/Bounds", "isEmpty", "()Z"⟩ : MethodName) (head1 (Jvm.Cond.code (⟨"com/example/mullion/mullion/model/Bounds", "isEmpty", "()Z"⟩ : MethodName) prog_17_method_2_code 1 (some .boolean) :: ws) ({ frames := 0, cells := 0, slots := 0, locals := 0 } : Room)) (fun argv U => argv = #[(.ref a)] ∧ Z.Warmed39 U.vm ∧ U.heap = h0) (fun _ _ _ _ _ => True) (fun _ U o U' => ∃ v L, o = .returned v ∧ own_Q4z Z a h0 n0 v U'.heap L ∧ FrameEnd U o U' L ({ frames := 0, cells := 0, slots := 0, locals := 0 } : Room).cells ({ frames := 0, cells := 0, slots := 0, locals := 0 } : Room).slots) := by
  refine MetFree.of_bodySF (plainFor_of_name own_pn1) hisR ?_
  intro p e s m args below meth c s₁ Bd hml0 hP hK
  obtain ⟨rfl, hZ, hh⟩ := hP
  have hx := Bd.exec
  have hby := Bd.bytes
  have hml : c.maxLocals = 1 := hml0
  have hown : s.vm.findClass "com/example/mullion/mullion/model/Bounds" = some m.cls := findClass_of_methodNamed Bd.named
  have hnm := (name_of_methodNamed Bd.named Bd.method).1
  have X0 : Stand p l e ({ frames := 0, cells := 0, slots := 0, locals := 0 } : Room) s m #[(.ref a)] below meth c s₁ [] 0 0 := Stand.of_body Bd
  have e0 : s₁.heap = h0 := by rw [← hh, Bd.state]; rfl
  have N0 := Fr.nil n0
  have pre0 : ∀ t, Steps p.tables e below (s₁.setTop (mkF m 0 #[.val (.ref a)] [])) t → Steps p.tables e below (s₁.setTop (entryFrame m #[(.ref a)] 1)) t := fun t k => castTop (own_ef4z m a) k
  have S1 : ∀ t, Steps p.tables e below (s₁.setTop (mkF m 1 #[.val (.ref a)] [(.ref a)])) t → Steps p.tables e below (s₁.setTop (entryFrame m #[(.ref a)] 1)) t := fun t kt => by
    refine pre0 t ?_
    show Steps p.tables e below (s₁.setTop (mkF m 0 #[.val (.ref a)] [])) t
    refine XS.aloadN X0.here hx rfl (hb hby own_d4_0) rfl rfl ?_
    exact kt
  obtain ⟨T2, X2, e2, st2⟩ := getF X0 hx hZ hown (host := "") (Or.inl (hw _ (List.mem_of_getElem? (i := 18) rfl))) Via.refl e0 F_right_a (g := (mkF m 1 #[.val (.ref a)] [(.ref a)])) rfl rfl (hb hby own_d4_1)
  have S3 : ∀ t, Steps p.tables e below (T2.setTop (mkF m 4 #[.val (.ref a)] [(.int (0 : Int32))])) t → Steps p.tables e below (s₁.setTop (entryFrame m #[(.ref a)] 1)) t := fun t kt => S1 t (st2 _ kt)
  have S4 : ∀ t, Steps p.tables e below (T2.setTop (mkF m 5 #[.val (.ref a)] [(.ref a), (.int (0 : Int32))])) t → Steps p.tables e below (s₁.setTop (entryFrame m #[(.ref a)] 1)) t := fun t kt => by
    refine S3 t ?_
    show Steps p.tables e below (T2.setTop (mkF m 4 #[.val (.ref a)] [(.int (0 : Int32))])) t
    refine XS.aloadN X2.here hx rfl (hb hby own_d4_4) rfl rfl ?_
    exact kt
  obtain ⟨T5, X5, e5, st5⟩ := getF X2 hx hZ hown (host := "") (Or.inl (hw _ (List.mem_of_getElem? (i := 14) rfl))) Via.refl e2 F_left_a (g := (mkF m 5 #[.val (.ref a)] [(.ref a), (.int (0 : Int32))])) rfl rfl (hb hby own_d4_5)
  have S6 : ∀ t, Steps p.tables e below (T5.setTop (mkF m 8 #[.val (.ref a)] [(.int (0 : Int32)), (.int (0 : Int32))])) t → Steps p.tables e below (s₁.setTop (entryFrame m #[(.ref a)] 1)) t := fun t kt => S4 t (st5 _ kt)
  have hc8_7 : ¬ ((0 : Int32) < (0 : Int32)) := by decide
  have S8 : ∀ t, Steps p.tables e below (T5.setTop (mkF m 27 #[.val (.ref a)] [(.int (1 : Int32))])) t → Steps p.tables e below (s₁.setTop (entryFrame m #[(.ref a)] 1)) t := fun t kt => by
    refine S6 t ?_
    show Steps p.tables e below (T5.setTop (mkF m 8 #[.val (.ref a)] [(.int (0 : Int32)), (.int (0 : Int32))])) t
    refine XS.icmpYes X5.here hx rfl (pc0 := 8) (pc' := 22) rfl (hb hby own_d4_8) rfl (flt hc8_7).2.2.2 (by decide) (by decide) ?_
    show Steps p.tables e below (T5.setTop (mkF m 22 #[.val (.ref a)] [])) t
    refine XS.iconst X5.here hx rfl (hb hby own_d4_22) ?_
    show Steps p.tables e below (T5.setTop (mkF m 23 #[.val (.ref a)] [(.int (1 : Int32))])) t
    refine XS.goto X5.here hx rfl (pc0 := 23) (pc' := 27) rfl (hb hby own_d4_23) (by decide) (by decide) ?_
    exact kt
  obtain ⟨fs, hr, hrun, hended, hW, hsame⟩ := X5.leave (v := some (.int (nar .boolean (1 : Int32)))) (fun h => by rw [Bd.returns] at h; cases h)
  refine ⟨_, _, S8 _ ?_, hrun, hended, _, _, rfl, ?_, ⟨_, rfl⟩, hW, hsame.mono (by decide) (by decide)⟩
  · show Steps p.tables e below (T5.setTop (mkF m 27 #[.val (.ref a)] [(.int (1 : Int32))])) _
    exact retN X5 hx (t := .boolean) Bd.returns (by simp) (hb hby own_d4_27) hr
  · show own_Q4z Z a h0 n0 _ T5.heap _
    rw [e5]
    exact ⟨rfl, rfl, rfl⟩
theorem own_pd1 : parseMethodDescriptor "(IIII)V" = some ⟨[.int, .int, .int, .int], none⟩ := by decide +kernel
theorem own_pd2 : parseMethodDescriptor "()Z" = some ⟨[], some .boolean⟩ := by decide +kernel
theorem own_pd3 : parseMethodDescriptor "(IIIIII)Z" = some ⟨[.int, .int, .int, .int, .int, .int], some .boolean⟩ := by decide +kernel
theorem own_ef0 (m : MethodId) (x0 : Int32) (x1 : Int32) (x2 : Int32) (x3 : Int32) (x4 : Int32) (x5 : Int32) : entryFrame m #[(.int x0), (.int x1), (.int x2), (.int x3), (.int x4), (.int x5)] maxLocals = mkF m 0 #[.val (.int x0), .val (.int x1), .val (.int x2), .val (.int x3), .val (.int x4), .val (.int x5), .unset, .unset] [] := by first | (simp [entryFrame, mkF, argsToLocals, Value.category, maxLocals]; done) | rfl
def own_Q0 (Z : State) (lf : Int32) (tp : Int32) (rg : Int32) (bt : Int32) (px : Int32) (py : Int32) (st_EMPTY : Addr) (h0 : Heap) (n0 : Nat) (v : Option Value) (h : Heap) (L : List Loc) : Prop := v = some (.int (1 : Int32)) ∧ Fr n0 L
set_option maxHeartbeats 40000000 in
theorem own_rm0 (l : Launch) (Z : State) (a0 : Array Value) (hw : ∀ d ∈ tables_1, d.before a0 Z = true) (ws : List Jvm.Cond) (lf : Int32) (tp : Int32) (rg : Int32) (bt : Int32) (px : Int32) (py : Int32) (st_EMPTY : Addr) (h0 : Heap) (n0 : Nat) (Z0 : n0 ≤ h0.size) (S_EMPTY : Sta Z h0 "com/example/mullion/mullion/model/Bounds" "EMPTY" "Lcom/example/mullion/mullion/model/Bounds;" (.ref st_EMPTY)) (E_EMPTY : Exa Z h0 st_EMPTY "com/example/mullion/mullion/model/Bounds") (A_EMPTY : Fld Z h0 st_EMPTY "com/example/mullion/mullion/model/Bounds" "left" "I" (.int (0 : Int32))) (B_EMPTY : Fld Z h0 st_EMPTY "com/example/mullion/mullion/model/Bounds" "right" "I" (.int (0 : Int32))) :
    MetFree l x (head1 (Jvm.Cond.code x code maxLocals ret :: ws) room_1) (fun argv U => argv = #[(.int lf), (.int tp), (.int rg), (.int bt), (.int px), (.int py)] ∧ Z.Warmed39 U.vm ∧ U.heap = h0) (fun _ _ _ _ _ => True) (fun _ U o U' => ∃ v L, o = .returned v ∧ own_Q0 Z lf tp rg bt px py st_EMPTY h0 n0 v U'.heap L ∧ FrameEnd U o U' L room_1.cells room_1.slots) := by
  refine MetFree.of_bodySF (plainFor_of_name own_pn2) hisR ?_
  intro p e s m args below meth c s₁ Bd hml0 hP hK
  obtain ⟨rfl, hZ, hh⟩ := hP
  have hx := Bd.exec
  have hby := Bd.bytes
  have hml : c.maxLocals = 8 := hml0
  have hown : s.vm.findClass "com/example/mullion/mullion/model/BoundsIsEmptyPinLaw" = some m.cls := findClass_of_methodNamed Bd.named
  have hnm := (name_of_methodNamed Bd.named Bd.method).1
  have X0 : Stand p l e room_1 s m #[(.int lf), (.int tp), (.int rg), (.int bt), (.int px), (.int py)] below meth c s₁ [] 0 0 := Stand.of_body Bd
  have e0 : s₁.heap = h0 := by rw [← hh, Bd.state]; rfl
  have N0 := Fr.nil n0
  have pre0 : ∀ t, Steps p.tables e below (s₁.setTop (mkF m 0 #[.val (.int lf), .val (.int tp), .val (.int rg), .val (.int bt), .val (.int px), .val (.int py), .unset, .unset] [])) t → Steps p.tables e below (s₁.setTop (entryFrame m #[(.int lf), (.int tp), (.int rg), (.int bt), (.int px), (.int py)] maxLocals)) t := fun t k => castTop (own_ef0 m lf tp rg bt px py) k
  obtain ⟨T1, h1, X1, e1, E1, A1, D1, -, st1⟩ := newO X0 hx hZ hown (hw _ (List.mem_of_getElem? (i := 0) rfl)) (hw _ (List.mem_of_getElem? (i := 1) rfl)) (hw _ (List.mem_of_getElem? (i := 2) rfl)) e0 (g := (mkF m 0 #[.val (.int lf), .val (.int tp), .val (.int rg), .val (.int bt), .val (.int px), .val (.int py), .unset, .unset] [])) rfl (hb hby at_0) (by decide) (by decide)
  obtain ⟨b1, g1⟩ : ∃ z, z = h0.size := ⟨_, rfl⟩
  rw [← g1] at A1 D1 st1
  have S2 : ∀ t, Steps p.tables e below (T1.setTop (mkF m 3 #[.val (.int lf), .val (.int tp), .val (.int rg), .val (.int bt), .val (.int px), .val (.int py), .unset, .unset] [(.ref b1)])) t → Steps p.tables e below (s₁.setTop (entryFrame m #[(.int lf), (.int tp), (.int rg), (.int bt), (.int px), (.int py)] maxLocals)) t := fun t kt => pre0 t (st1 _ kt)
  have g_b1 : n0 ≤ b1 := Nat.le_trans Z0 (Nat.le_of_eq g1.symm)
  have sz_b1 : h0.size ≤ b1 := Nat.le_trans (Keep.refl h0 []).1 (Nat.le_of_eq g1.symm)
  have ne_st_EMPTY_b1 : st_EMPTY ≠ b1 := Nat.ne_of_lt (Nat.lt_of_lt_of_le E_EMPTY.lt (Nat.le_of_eq g1.symm))
  have F3 := S_EMPTY.ext E1
  have F4 := E_EMPTY.ext E1
  have F5 := A_EMPTY.ext E1
  have F6 := B_EMPTY.ext E1
  have K7 : Keep h0 h1 [] := (Keep.refl h0 []).ext E1
  have F8 : Fld Z h1 b1 "com/example/mullion/mullion/model/Bounds" "left" "I" (.int (0 : Int32)) := D1 (Or.inr (hw _ (List.mem_of_getElem? (i := 15) rfl))) (ty := .int) (by decide)
  have F9 : Fld Z h1 b1 "com/example/mullion/mullion/model/Bounds" "top" "I" (.int (0 : Int32)) := D1 (Or.inr (hw _ (List.mem_of_getElem? (i := 17) rfl))) (ty := .int) (by decide)
  have F10 : Fld Z h1 b1 "com/example/mullion/mullion/model/Bounds" "right" "I" (.int (0 : Int32)) := D1 (Or.inr (hw _ (List.mem_of_getElem? (i := 19) rfl))) (ty := .int) (by decide)
  have F11 : Fld Z h1 b1 "com/example/mullion/mullion/model/Bounds" "bottom" "I" (.int (0 : Int32)) := D1 (Or.inr (hw _ (List.mem_of_getElem? (i := 21) rfl))) (ty := .int) (by decide)
  have S14 : ∀ t, Steps p.tables e below (T1.setTop (mkF m 8 #[.val (.int lf), .val (.int tp), .val (.int rg), .val (.int bt), .val (.int px), .val (.int py), .unset, .unset] [(.int bt), (.int rg), (.int tp), (.int lf), (.ref b1), (.ref b1)])) t → Steps p.tables e below (s₁.setTop (entryFrame m #[(.int lf), (.int tp), (.int rg), (.int bt), (.int px), (.int py)] maxLocals)) t := fun t kt => by
    refine S2 t ?_
    show Steps p.tables e below (T1.setTop (mkF m 3 #[.val (.int lf), .val (.int tp), .val (.int rg), .val (.int bt), .val (.int px), .val (.int py), .unset, .unset] [(.ref b1)])) t
    refine XS.dup X1.here hx rfl (hb hby at_3) rfl rfl ?_
    show Steps p.tables e below (T1.setTop (mkF m 4 #[.val (.int lf), .val (.int tp), .val (.int rg), .val (.int bt), .val (.int px), .val (.int py), .unset, .unset] [(.ref b1), (.ref b1)])) t
    refine XS.iloadN X1.here hx rfl (hb hby at_4) rfl ?_
    show Steps p.tables e below (T1.setTop (mkF m 5 #[.val (.int lf), .val (.int tp), .val (.int rg), .val (.int bt), .val (.int px), .val (.int py), .unset, .unset] [(.int lf), (.ref b1), (.ref b1)])) t
    refine XS.iloadN X1.here hx rfl (hb hby at_5) rfl ?_
    show Steps p.tables e below (T1.setTop (mkF m 6 #[.val (.int lf), .val (.int tp), .val (.int rg), .val (.int bt), .val (.int px), .val (.int py), .unset, .unset] [(.int tp), (.int lf), (.ref b1), (.ref b1)])) t
    refine XS.iloadN X1.here hx rfl (hb hby at_6) rfl ?_
    show Steps p.tables e below (T1.setTop (mkF m 7 #[.val (.int lf), .val (.int tp), .val (.int rg), .val (.int bt), .val (.int px), .val (.int py), .unset, .unset] [(.int rg), (.int tp), (.int lf), (.ref b1), (.ref b1)])) t
    refine XS.iloadN X1.here hx rfl (hb hby at_7) rfl ?_
    exact kt
  obtain ⟨_, _, ⟨T15, L15, k15, n15⟩, -, X15, ⟨Lc15, hQ15, l15, y15, z15⟩, st15⟩ := X1.specialBack hx (y := (⟨"com/example/mullion/mullion/model/Bounds", "<init>", "(IIII)V"⟩ : MethodName)) rfl hown (mvT hZ (hw _ (List.mem_of_getElem? (i := 3) rfl))) (mvT hZ (hw _ (List.mem_of_getElem? (i := 4) rfl))) (mvT hZ (hw _ (List.mem_of_getElem? (i := 5) rfl))) (by decide) (backOf (W := 1) (own_rm1 l Z a0 hw [] (b1) (lf) (tp) (rg) (bt) ((.int (0 : Int32))) ((.int (0 : Int32))) ((.int (0 : Int32))) ((.int (0 : Int32))) h1 n0 (Nat.le_trans Z0 K7.1) A1 g_b1 F8 F9 F10 F11) hZ (hw _ (List.mem_of_getElem? (i := 5) rfl)) (hw _ (List.mem_of_getElem? (i := 2) rfl)) (by decide) (by decide)) (g := (mkF m 8 #[.val (.int lf), .val (.int tp), .val (.int rg), .val (.int bt), .val (.int px), .val (.int py), .unset, .unset] [(.int bt), (.int rg), (.int tp), (.int lf), (.ref b1), (.ref b1)])) rfl (by rw [hml]; rfl) (Steps.refl _) (a := b1) (argsL := [(.int lf), (.int tp), (.int rg), (.int bt)]) (rest := [(.ref b1)]) (lenOf own_pd1 rfl) rfl (by show 2 * 0 + _ ≤ _; exact Nat.le_of_eq rfl) (hb hby at_8) (fun _ _ => ⟨rfl, e1, (by decide : 1 + 0 ≤ _), (by decide : 4 + 0 ≤ _)⟩)
  dsimp only [Pt.U, Pt.locs, Pt.cells, Pt.slots] at X15 l15 y15 z15 st15 hQ15
  subst l15 y15 z15
  obtain ⟨rfl, Nq15, Kc12, Ec12, Fc12_left, Fc12_top, Fc12_right, Fc12_bottom⟩ := hQ15
  have N16 := Fr.app N0 Nq15
  have S17 : ∀ t, Steps p.tables e below (T15.setTop (mkF m 11 #[.val (.int lf), .val (.int tp), .val (.int rg), .val (.int bt), .val (.int px), .val (.int py), .unset, .unset] [(.ref b1)])) t → Steps p.tables e below (s₁.setTop (entryFrame m #[(.int lf), (.int tp), (.int rg), (.int bt), (.int px), (.int py)] maxLocals)) t := fun t kt => S14 t (st15.trans kt)
  have F18 := own_StaK F3 Kc12 (allS (own_ExaS A1) all0)
  have F19 := F4.keep Kc12
  have F20 := F5.keep Kc12 (ninS ne_st_EMPTY_b1 nin0)
  have F21 := F6.keep Kc12 (ninS ne_st_EMPTY_b1 nin0)
  have F22 := A1.keep Kc12
  have K23 : Keep h0 T15.heap [] := K7.trans Kc12 (allS (Or.inr sz_b1) all0)
  have S25 : ∀ t, Steps p.tables e below (T15.setTop (mkF m 15 #[.val (.int lf), .val (.int tp), .val (.int rg), .val (.int bt), .val (.int px), .val (.int py), .val (.ref b1), .unset] [(.ref b1)])) t → Steps p.tables e below (s₁.setTop (entryFrame m #[(.int lf), (.int tp), (.int rg), (.int bt), (.int px), (.int py)] maxLocals)) t := fun t kt => by
    refine S17 t ?_
    show Steps p.tables e below (T15.setTop (mkF m 11 #[.val (.int lf), .val (.int tp), .val (.int rg), .val (.int bt), .val (.int px), .val (.int py), .unset, .unset] [(.ref b1)])) t
    refine XS.astore X15.here hx rfl (hb hby at_11) rfl rfl (l' := #[.val (.int lf), .val (.int tp), .val (.int rg), .val (.int bt), .val (.int px), .val (.int py), .val (.ref b1), .unset]) rfl ?_
    show Steps p.tables e below (T15.setTop (mkF m 13 #[.val (.int lf), .val (.int tp), .val (.int rg), .val (.int bt), .val (.int px), .val (.int py), .val (.ref b1), .unset] [])) t
    refine XS.aload X15.here hx rfl (hb hby at_13) rfl rfl ?_
    exact kt
  obtain ⟨cq26, kq26, q26a, q26b, q26c⟩ := isOf hZ rfl F22
  obtain ⟨_, _, ⟨T26, L26, k26, n26⟩, -, X26, ⟨Lc26, hQ26, l26, y26, z26⟩, st26⟩ := X15.virtualBack hx (y := (⟨"com/example/mullion/mullion/model/Bounds", "isEmpty", "()Z"⟩ : MethodName)) (z := (⟨"com/example/mullion/mullion/model/Bounds", "isEmpty", "()Z"⟩ : MethodName)) hown (mvT hZ (hw _ (List.mem_of_getElem? (i := 22) rfl))) (mvT hZ (hw _ (List.mem_of_getElem? (i := 23) rfl))) (notFace_of_selects (args := #[]) (mvT hZ (hw _ (List.mem_of_getElem? (i := 25) rfl)))) (mvT hZ (hw _ (List.mem_of_getElem? (i := 25) rfl))) (mvT hZ (hw _ (List.mem_of_getElem? (i := 24) rfl))) (by decide) (backOf (W := 0) (own_rm4 l Z a0 hw [] (b1) (lf) (tp) (rg) (bt) T15.heap n0 (Nat.le_trans Z0 K23.1) Fc12_left Fc12_top Fc12_right Fc12_bottom) hZ (hw _ (List.mem_of_getElem? (i := 26) rfl)) (hw _ (List.mem_of_getElem? (i := 2) rfl)) (by decide) (by decide)) q26a q26c (g := (mkF m 15 #[.val (.int lf), .val (.int tp), .val (.int rg), .val (.int bt), .val (.int px), .val (.int py), .val (.ref b1), .unset] [(.ref b1)])) rfl (by rw [hml]; rfl) (Steps.refl _) (argsL := []) (rest := []) (lenOf own_pd2 rfl) rfl (by show 2 * 0 + _ ≤ _; exact Nat.le_of_eq rfl) (hb hby at_15) (fun _ _ => ⟨rfl, rfl, (by decide : 1 + 0 ≤ _), (by decide : 4 + 0 ≤ _)⟩)
  dsimp only [Pt.U, Pt.locs, Pt.cells, Pt.slots] at X26 l26 y26 z26 st26 hQ26
  subst l26 y26 z26
  obtain ⟨rfl, rfl, eq24⟩ := hQ26
  try rw [List.append_nil] at X26
  have S27 : ∀ t, Steps p.tables e below (T26.setTop (mkF m 18 #[.val (.int lf), .val (.int tp), .val (.int rg), .val (.int bt), .val (.int px), .val (.int py), .val (.ref b1), .unset] [(.int (own_b (own_em lf tp rg bt)))])) t → Steps p.tables e below (s₁.setTop (entryFrame m #[(.int lf), (.int tp), (.int rg), (.int bt), (.int px), (.int py)] maxLocals)) t := fun t kt => S25 t (st26.trans kt)
  have S28 : ∀ t, Steps p.tables e below (T26.setTop (mkF m 20 #[.val (.int lf), .val (.int tp), .val (.int rg), .val (.int bt), .val (.int px), .val (.int py), .val (.ref b1), .val (.int (own_b (own_em lf tp rg bt)))] [])) t → Steps p.tables e below (s₁.setTop (entryFrame m #[(.int lf), (.int tp), (.int rg), (.int bt), (.int px), (.int py)] maxLocals)) t := fun t kt => by
    refine S27 t ?_
    show Steps p.tables e below (T26.setTop (mkF m 18 #[.val (.int lf), .val (.int tp), .val (.int rg), .val (.int bt), .val (.int px), .val (.int py), .val (.ref b1), .unset] [(.int (own_b (own_em lf tp rg bt)))])) t
    refine XS.istore X26.here hx rfl (hb hby at_18) rfl (l' := #[.val (.int lf), .val (.int tp), .val (.int rg), .val (.int bt), .val (.int px), .val (.int py), .val (.ref b1), .val (.int (own_b (own_em lf tp rg bt)))]) rfl ?_
    exact kt
  obtain ⟨T29, X29, e29, st29⟩ := getS2 X26 hx hZ hown (host := "") (Or.inl (hw _ (List.mem_of_getElem? (i := 27) rfl))) Via.refl (eq24.trans rfl) F18 (g := (mkF m 20 #[.val (.int lf), .val (.int tp), .val (.int rg), .val (.int bt), .val (.int px), .val (.int py), .val (.ref b1), .val (.int (own_b (own_em lf tp rg bt)))] [])) rfl (hb hby at_20)
  have S30 : ∀ t, Steps p.tables e below (T29.setTop (mkF m 23 #[.val (.int lf), .val (.int tp), .val (.int rg), .val (.int bt), .val (.int px), .val (.int py), .val (.ref b1), .val (.int (own_b (own_em lf tp rg bt)))] [(.ref st_EMPTY)])) t → Steps p.tables e below (s₁.setTop (entryFrame m #[(.int lf), (.int tp), (.int rg), (.int bt), (.int px), (.int py)] maxLocals)) t := fun t kt => S28 t (st29 _ kt)
  obtain ⟨cq32, kq32, q32a, q32b, q32c⟩ := isOf hZ e29 F19
  obtain ⟨_, _, ⟨T32, L32, k32, n32⟩, -, X32, ⟨Lc32, hQ32, l32, y32, z32⟩, st32⟩ := X29.virtualBack hx (y := (⟨"com/example/mullion/mullion/model/Bounds", "isEmpty", "()Z"⟩ : MethodName)) (z := (⟨"com/example/mullion/mullion/model/Bounds", "isEmpty", "()Z"⟩ : MethodName)) hown (mvT hZ (hw _ (List.mem_of_getElem? (i := 22) rfl))) (mvT hZ (hw _ (List.mem_of_getElem? (i := 23) rfl))) (notFace_of_selects (args := #[]) (mvT hZ (hw _ (List.mem_of_getElem? (i := 25) rfl)))) (mvT hZ (hw _ (List.mem_of_getElem? (i := 25) rfl))) (mvT hZ (hw _ (List.mem_of_getElem? (i := 24) rfl))) (by decide) (backOf (W := 0) (own_rm4z l Z a0 hw [] (st_EMPTY) T15.heap n0 (Nat.le_trans Z0 K23.1) F20 F21) hZ (hw _ (List.mem_of_getElem? (i := 26) rfl)) (hw _ (List.mem_of_getElem? (i := 2) rfl)) (by decide) (by decide)) q32a q32c (g := (mkF m 23 #[.val (.int lf), .val (.int tp), .val (.int rg), .val (.int bt), .val (.int px), .val (.int py), .val (.ref b1), .val (.int (own_b (own_em lf tp rg bt)))] [(.ref st_EMPTY)])) rfl (by rw [hml]; rfl) (Steps.refl _) (argsL := []) (rest := []) (lenOf own_pd2 rfl) rfl (by show 2 * 0 + _ ≤ _; exact Nat.le_of_eq rfl) (hb hby at_23) (fun _ _ => ⟨rfl, e29, (by decide : 1 + 0 ≤ _), (by decide : 4 + 0 ≤ _)⟩)
  dsimp only [Pt.U, Pt.locs, Pt.cells, Pt.slots] at X32 l32 y32 z32 st32 hQ32
  subst l32 y32 z32
  obtain ⟨rfl, rfl, eq31⟩ := hQ32
  try rw [List.append_nil] at X32
  have S33 : ∀ t, Steps p.tables e below (T32.setTop (mkF m 26 #[.val (.int lf), .val (.int tp), .val (.int rg), .val (.int bt), .val (.int px), .val (.int py), .val (.ref b1), .val (.int (own_b (own_em lf tp rg bt)))] [(.int (1 : Int32))])) t → Steps p.tables e below (s₁.setTop (entryFrame m #[(.int lf), (.int tp), (.int rg), (.int bt), (.int px), (.int py)] maxLocals)) t := fun t kt => S30 t (st32.trans kt)
  have hc26_34 : ¬ ((1 : Int32) = (0 : Int32)) := by decide
  have S35 : ∀ t, Steps p.tables e below (T32.setTop (mkF m 33 #[.val (.int lf), .val (.int tp), .val (.int rg), .val (.int bt), .val (.int px), .val (.int py), .val (.ref b1), .val (.int (own_b (own_em lf tp rg bt)))] [(.int (own_b (own_em lf tp rg bt)))])) t → Steps p.tables e below (s₁.setTop (entryFrame m #[(.int lf), (.int tp), (.int rg), (.int bt), (.int px), (.int py)] maxLocals)) t := fun t kt => by
    refine S33 t ?_
    show Steps p.tables e below (T32.setTop (mkF m 26 #[.val (.int lf), .val (.int tp), .val (.int rg), .val (.int bt), .val (.int px), .val (.int py), .val (.ref b1), .val (.int (own_b (own_em lf tp rg bt)))] [(.int (1 : Int32))])) t
    refine XS.ifYes X32.here hx rfl (pc0 := 26) (pc' := 31) rfl (hb hby at_26) rfl ((if0 _ _).trans (feq hc26_34).2) (by decide) (by decide) ?_
    show Steps p.tables e below (T32.setTop (mkF m 31 #[.val (.int lf), .val (.int tp), .val (.int rg), .val (.int bt), .val (.int px), .val (.int py), .val (.ref b1), .val (.int (own_b (own_em lf tp rg bt)))] [])) t
    refine XS.iload X32.here hx rfl (hb hby at_31) rfl ?_
    exact kt
  by_cases hc33 : (own_b (own_em lf tp rg bt)) = (0 : Int32)
  · skip
    have S36 : ∀ t, Steps p.tables e below (T32.setTop (mkF m 54 #[.val (.int lf), .val (.int tp), .val (.int rg), .val (.int bt), .val (.int px), .val (.int py), .val (.ref b1), .val (.int (own_b (own_em lf tp rg bt)))] [(.int (own_b (own_em lf tp rg bt)))])) t → Steps p.tables e below (s₁.setTop (entryFrame m #[(.int lf), (.int tp), (.int rg), (.int bt), (.int px), (.int py)] maxLocals)) t := fun t kt => by
      refine S35 t ?_
      show Steps p.tables e below (T32.setTop (mkF m 33 #[.val (.int lf), .val (.int tp), .val (.int rg), .val (.int bt), .val (.int px), .val (.int py), .val (.ref b1), .val (.int (own_b (own_em lf tp rg bt)))] [(.int (own_b (own_em lf tp rg bt)))])) t
      refine XS.ifYes X32.here hx rfl (pc0 := 33) (pc' := 52) rfl (hb hby at_33) rfl ((if0 _ _).trans (teq hc33).1) (by decide) (by decide) ?_
      show Steps p.tables e below (T32.setTop (mkF m 52 #[.val (.int lf), .val (.int tp), .val (.int rg), .val (.int bt), .val (.int px), .val (.int py), .val (.ref b1), .val (.int (own_b (own_em lf tp rg bt)))] [])) t
      refine XS.iload X32.here hx rfl (hb hby at_52) rfl ?_
      exact kt
    have hc54_37 : (own_b (own_em lf tp rg bt)) = (0 : Int32) := hc33
    have S39 : ∀ t, Steps p.tables e below (T32.setTop (mkF m 63 #[.val (.int lf), .val (.int tp), .val (.int rg), .val (.int bt), .val (.int px), .val (.int py), .val (.ref b1), .val (.int (own_b (own_em lf tp rg bt)))] [(.int tp), (.int lf), (.int bt), (.int rg), (.int tp), (.int lf)])) t → Steps p.tables e below (s₁.setTop (entryFrame m #[(.int lf), (.int tp), (.int rg), (.int bt), (.int px), (.int py)] maxLocals)) t := fun t kt => by
      refine S36 t ?_
      show Steps p.tables e below (T32.setTop (mkF m 54 #[.val (.int lf), .val (.int tp), .val (.int rg), .val (.int bt), .val (.int px), .val (.int py), .val (.ref b1), .val (.int (own_b (own_em lf tp rg bt)))] [(.int (own_b (own_em lf tp rg bt)))])) t
      refine XS.ifNo X32.here hx rfl (hb hby at_54) rfl ((if0 _ _).trans (teq hc54_37).2) ?_
      show Steps p.tables e below (T32.setTop (mkF m 57 #[.val (.int lf), .val (.int tp), .val (.int rg), .val (.int bt), .val (.int px), .val (.int py), .val (.ref b1), .val (.int (own_b (own_em lf tp rg bt)))] [])) t
      refine XS.iloadN X32.here hx rfl (hb hby at_57) rfl ?_
      show Steps p.tables e below (T32.setTop (mkF m 58 #[.val (.int lf), .val (.int tp), .val (.int rg), .val (.int bt), .val (.int px), .val (.int py), .val (.ref b1), .val (.int (own_b (own_em lf tp rg bt)))] [(.int lf)])) t
      refine XS.iloadN X32.here hx rfl (hb hby at_58) rfl ?_
      show Steps p.tables e below (T32.setTop (mkF m 59 #[.val (.int lf), .val (.int tp), .val (.int rg), .val (.int bt), .val (.int px), .val (.int py), .val (.ref b1), .val (.int (own_b (own_em lf tp rg bt)))] [(.int tp), (.int lf)])) t
      refine XS.iloadN X32.here hx rfl (hb hby at_59) rfl ?_
      show Steps p.tables e below (T32.setTop (mkF m 60 #[.val (.int lf), .val (.int tp), .val (.int rg), .val (.int bt), .val (.int px), .val (.int py), .val (.ref b1), .val (.int (own_b (own_em lf tp rg bt)))] [(.int rg), (.int tp), (.int lf)])) t
      refine XS.iloadN X32.here hx rfl (hb hby at_60) rfl ?_
      show Steps p.tables e below (T32.setTop (mkF m 61 #[.val (.int lf), .val (.int tp), .val (.int rg), .val (.int bt), .val (.int px), .val (.int py), .val (.ref b1), .val (.int (own_b (own_em lf tp rg bt)))] [(.int bt), (.int rg), (.int tp), (.int lf)])) t
      refine XS.iloadN X32.here hx rfl (hb hby at_61) rfl ?_
      show Steps p.tables e below (T32.setTop (mkF m 62 #[.val (.int lf), .val (.int tp), .val (.int rg), .val (.int bt), .val (.int px), .val (.int py), .val (.ref b1), .val (.int (own_b (own_em lf tp rg bt)))] [(.int lf), (.int bt), (.int rg), (.int tp), (.int lf)])) t
      refine XS.iloadN X32.here hx rfl (hb hby at_62) rfl ?_
      exact kt
    obtain ⟨_, _, ⟨T40, L40, k40, n40⟩, -, X40, ⟨Lc40, hQ40, l40, y40, z40⟩, st40⟩ := Jvm.LawKit.callS X32 hx (y := (⟨"com/example/mullion/mullion/model/BoundsIsEmptyPinLaw", "covers", "(IIIIII)Z"⟩ : MethodName)) hown (mvT hZ (hw _ (List.mem_of_getElem? (i := 29) rfl))) (mvT hZ (hw _ (List.mem_of_getElem? (i := 30) rfl))) (mvT hZ (hw _ (List.mem_of_getElem? (i := 31) rfl))) (mvT hZ (hw _ (List.mem_of_getElem? (i := 32) rfl))) (by decide) (backOf (W := 0) (own_rm5 l Z a0 hw [] (lf) (tp) (rg) (bt) (lf) (tp) T15.heap n0 (Nat.le_trans Z0 K23.1)) hZ (hw _ (List.mem_of_getElem? (i := 32) rfl)) (hw _ (List.mem_of_getElem? (i := 31) rfl)) (by decide) (by decide)) (g := (mkF m 63 #[.val (.int lf), .val (.int tp), .val (.int rg), .val (.int bt), .val (.int px), .val (.int py), .val (.ref b1), .val (.int (own_b (own_em lf tp rg bt)))] [(.int tp), (.int lf), (.int bt), (.int rg), (.int tp), (.int lf)])) rfl (by rw [hml]; rfl) (argsL := [(.int lf), (.int tp), (.int rg), (.int bt), (.int lf), (.int tp)]) (rest := []) (lenOf own_pd3 rfl) rfl (by show 2 * 0 + _ ≤ _; exact Nat.le_of_eq rfl) (hb hby at_63) (fun _ _ => ⟨rfl, eq31, (by decide : 1 + 0 ≤ _), (by decide : 4 + 0 ≤ _)⟩)
    dsimp only [Pt.U, Pt.locs, Pt.cells, Pt.slots] at X40 l40 y40 z40 st40 hQ40
    subst l40 y40 z40
    obtain ⟨rfl, rfl, eq38⟩ := hQ40
    try rw [List.append_nil] at X40
    have S41 : ∀ t, Steps p.tables e below (T40.setTop (mkF m 66 #[.val (.int lf), .val (.int tp), .val (.int rg), .val (.int bt), .val (.int px), .val (.int py), .val (.ref b1), .val (.int (own_b (own_em lf tp rg bt)))] [(.int (own_b (own_cv lf tp rg bt lf tp)))])) t → Steps p.tables e below (s₁.setTop (entryFrame m #[(.int lf), (.int tp), (.int rg), (.int bt), (.int px), (.int py)] maxLocals)) t := fun t kt => S39 t (st40 _ kt)
    have hc66_42 : ¬ ((own_b (own_cv lf tp rg bt lf tp)) = (0 : Int32)) := own_p2 hc33
    have S43 : ∀ t, Steps p.tables e below (T40.setTop (mkF m 73 #[.val (.int lf), .val (.int tp), .val (.int rg), .val (.int bt), .val (.int px), .val (.int py), .val (.ref b1), .val (.int (own_b (own_em lf tp rg bt)))] [(.int lf), (.int rg)])) t → Steps p.tables e below (s₁.setTop (entryFrame m #[(.int lf), (.int tp), (.int rg), (.int bt), (.int px), (.int py)] maxLocals)) t := fun t kt => by
      refine S41 t ?_
      show Steps p.tables e below (T40.setTop (mkF m 66 #[.val (.int lf), .val (.int tp), .val (.int rg), .val (.int bt), .val (.int px), .val (.int py), .val (.ref b1), .val (.int (own_b (own_em lf tp rg bt)))] [(.int (own_b (own_cv lf tp rg bt lf tp)))])) t
      refine XS.ifYes X40.here hx rfl (pc0 := 66) (pc' := 71) rfl (hb hby at_66) rfl ((if0 _ _).trans (feq hc66_42).2) (by decide) (by decide) ?_
      show Steps p.tables e below (T40.setTop (mkF m 71 #[.val (.int lf), .val (.int tp), .val (.int rg), .val (.int bt), .val (.int px), .val (.int py), .val (.ref b1), .val (.int (own_b (own_em lf tp rg bt)))] [])) t
      refine XS.iloadN X40.here hx rfl (hb hby at_71) rfl ?_
      show Steps p.tables e below (T40.setTop (mkF m 72 #[.val (.int lf), .val (.int tp), .val (.int rg), .val (.int bt), .val (.int px), .val (.int py), .val (.ref b1), .val (.int (own_b (own_em lf tp rg bt)))] [(.int rg)])) t
      refine XS.iloadN X40.here hx rfl (hb hby at_72) rfl ?_
      exact kt
    have hc73_44 : lf < rg := (own_lt hc33).1
    have S45 : ∀ t, Steps p.tables e below (T40.setTop (mkF m 78 #[.val (.int lf), .val (.int tp), .val (.int rg), .val (.int bt), .val (.int px), .val (.int py), .val (.ref b1), .val (.int (own_b (own_em lf tp rg bt)))] [(.int tp), (.int bt)])) t → Steps p.tables e below (s₁.setTop (entryFrame m #[(.int lf), (.int tp), (.int rg), (.int bt), (.int px), (.int py)] maxLocals)) t := fun t kt => by
      refine S43 t ?_
      show Steps p.tables e below (T40.setTop (mkF m 73 #[.val (.int lf), .val (.int tp), .val (.int rg), .val (.int bt), .val (.int px), .val (.int py), .val (.ref b1), .val (.int (own_b (own_em lf tp rg bt)))] [(.int lf), (.int rg)])) t
      refine XS.icmpNo X40.here hx rfl (hb hby at_73) rfl (tlt hc73_44).2.2.2 ?_
      show Steps p.tables e below (T40.setTop (mkF m 76 #[.val (.int lf), .val (.int tp), .val (.int rg), .val (.int bt), .val (.int px), .val (.int py), .val (.ref b1), .val (.int (own_b (own_em lf tp rg bt)))] [])) t
      refine XS.iloadN X40.here hx rfl (hb hby at_76) rfl ?_
      show Steps p.tables e below (T40.setTop (mkF m 77 #[.val (.int lf), .val (.int tp), .val (.int rg), .val (.int bt), .val (.int px), .val (.int py), .val (.ref b1), .val (.int (own_b (own_em lf tp rg bt)))] [(.int bt)])) t
      refine XS.iloadN X40.here hx rfl (hb hby at_77) rfl ?_
      exact kt
    have hc78_46 : tp < bt := (own_lt hc33).2
    have S48 : ∀ t, Steps p.tables e below (T40.setTop (mkF m 93 #[.val (.int lf), .val (.int tp), .val (.int rg), .val (.int bt), .val (.int px), .val (.int py), .val (.ref b1), .val (.int (own_b (own_em lf tp rg bt)))] [(.int (bt - (1 : Int32))), (.int (rg - (1 : Int32))), (.int bt), (.int rg), (.int tp), (.int lf)])) t → Steps p.tables e below (s₁.setTop (entryFrame m #[(.int lf), (.int tp), (.int rg), (.int bt), (.int px), (.int py)] maxLocals)) t := fun t kt => by
      refine S45 t ?_
      show Steps p.tables e below (T40.setTop (mkF m 78 #[.val (.int lf), .val (.int tp), .val (.int rg), .val (.int bt), .val (.int px), .val (.int py), .val (.ref b1), .val (.int (own_b (own_em lf tp rg bt)))] [(.int tp), (.int bt)])) t
      refine XS.icmpYes X40.here hx rfl (pc0 := 78) (pc' := 83) rfl (hb hby at_78) rfl (tlt hc78_46).2.2.1 (by decide) (by decide) ?_
      show Steps p.tables e below (T40.setTop (mkF m 83 #[.val (.int lf), .val (.int tp), .val (.int rg), .val (.int bt), .val (.int px), .val (.int py), .val (.ref b1), .val (.int (own_b (own_em lf tp rg bt)))] [])) t
      refine XS.iloadN X40.here hx rfl (hb hby at_83) rfl ?_
      show Steps p.tables e below (T40.setTop (mkF m 84 #[.val (.int lf), .val (.int tp), .val (.int rg), .val (.int bt), .val (.int px), .val (.int py), .val (.ref b1), .val (.int (own_b (own_em lf tp rg bt)))] [(.int lf)])) t
      refine XS.iloadN X40.here hx rfl (hb hby at_84) rfl ?_
      show Steps p.tables e below (T40.setTop (mkF m 85 #[.val (.int lf), .val (.int tp), .val (.int rg), .val (.int bt), .val (.int px), .val (.int py), .val (.ref b1), .val (.int (own_b (own_em lf tp rg bt)))] [(.int tp), (.int lf)])) t
      refine XS.iloadN X40.here hx rfl (hb hby at_85) rfl ?_
      show Steps p.tables e below (T40.setTop (mkF m 86 #[.val (.int lf), .val (.int tp), .val (.int rg), .val (.int bt), .val (.int px), .val (.int py), .val (.ref b1), .val (.int (own_b (own_em lf tp rg bt)))] [(.int rg), (.int tp), (.int lf)])) t
      refine XS.iloadN X40.here hx rfl (hb hby at_86) rfl ?_
      show Steps p.tables e below (T40.setTop (mkF m 87 #[.val (.int lf), .val (.int tp), .val (.int rg), .val (.int bt), .val (.int px), .val (.int py), .val (.ref b1), .val (.int (own_b (own_em lf tp rg bt)))] [(.int bt), (.int rg), (.int tp), (.int lf)])) t
      refine XS.iloadN X40.here hx rfl (hb hby at_87) rfl ?_
      show Steps p.tables e below (T40.setTop (mkF m 88 #[.val (.int lf), .val (.int tp), .val (.int rg), .val (.int bt), .val (.int px), .val (.int py), .val (.ref b1), .val (.int (own_b (own_em lf tp rg bt)))] [(.int rg), (.int bt), (.int rg), (.int tp), (.int lf)])) t
      refine XS.iconst X40.here hx rfl (hb hby at_88) ?_
      show Steps p.tables e below (T40.setTop (mkF m 89 #[.val (.int lf), .val (.int tp), .val (.int rg), .val (.int bt), .val (.int px), .val (.int py), .val (.ref b1), .val (.int (own_b (own_em lf tp rg bt)))] [(.int (1 : Int32)), (.int rg), (.int bt), (.int rg), (.int tp), (.int lf)])) t
      refine XS.isub X40.here hx rfl (hb hby at_89) rfl ?_
      show Steps p.tables e below (T40.setTop (mkF m 90 #[.val (.int lf), .val (.int tp), .val (.int rg), .val (.int bt), .val (.int px), .val (.int py), .val (.ref b1), .val (.int (own_b (own_em lf tp rg bt)))] [(.int (rg - (1 : Int32))), (.int bt), (.int rg), (.int tp), (.int lf)])) t
      refine XS.iloadN X40.here hx rfl (hb hby at_90) rfl ?_
      show Steps p.tables e below (T40.setTop (mkF m 91 #[.val (.int lf), .val (.int tp), .val (.int rg), .val (.int bt), .val (.int px), .val (.int py), .val (.ref b1), .val (.int (own_b (own_em lf tp rg bt)))] [(.int bt), (.int (rg - (1 : Int32))), (.int bt), (.int rg), (.int tp), (.int lf)])) t
      refine XS.iconst X40.here hx rfl (hb hby at_91) ?_
      show Steps p.tables e below (T40.setTop (mkF m 92 #[.val (.int lf), .val (.int tp), .val (.int rg), .val (.int bt), .val (.int px), .val (.int py), .val (.ref b1), .val (.int (own_b (own_em lf tp rg bt)))] [(.int (1 : Int32)), (.int bt), (.int (rg - (1 : Int32))), (.int bt), (.int rg), (.int tp), (.int lf)])) t
      refine XS.isub X40.here hx rfl (hb hby at_92) rfl ?_
      exact kt
    obtain ⟨_, _, ⟨T49, L49, k49, n49⟩, -, X49, ⟨Lc49, hQ49, l49, y49, z49⟩, st49⟩ := Jvm.LawKit.callS X40 hx (y := (⟨"com/example/mullion/mullion/model/BoundsIsEmptyPinLaw", "covers", "(IIIIII)Z"⟩ : MethodName)) hown (mvT hZ (hw _ (List.mem_of_getElem? (i := 29) rfl))) (mvT hZ (hw _ (List.mem_of_getElem? (i := 30) rfl))) (mvT hZ (hw _ (List.mem_of_getElem? (i := 31) rfl))) (mvT hZ (hw _ (List.mem_of_getElem? (i := 32) rfl))) (by decide) (backOf (W := 0) (own_rm5 l Z a0 hw [] (lf) (tp) (rg) (bt) ((rg - (1 : Int32))) ((bt - (1 : Int32))) T15.heap n0 (Nat.le_trans Z0 K23.1)) hZ (hw _ (List.mem_of_getElem? (i := 32) rfl)) (hw _ (List.mem_of_getElem? (i := 31) rfl)) (by decide) (by decide)) (g := (mkF m 93 #[.val (.int lf), .val (.int tp), .val (.int rg), .val (.int bt), .val (.int px), .val (.int py), .val (.ref b1), .val (.int (own_b (own_em lf tp rg bt)))] [(.int (bt - (1 : Int32))), (.int (rg - (1 : Int32))), (.int bt), (.int rg), (.int tp), (.int lf)])) rfl (by rw [hml]; rfl) (argsL := [(.int lf), (.int tp), (.int rg), (.int bt), (.int (rg - (1 : Int32))), (.int (bt - (1 : Int32)))]) (rest := []) (lenOf own_pd3 rfl) rfl (by show 2 * 0 + _ ≤ _; exact Nat.le_of_eq rfl) (hb hby at_93) (fun _ _ => ⟨rfl, eq38, (by decide : 1 + 0 ≤ _), (by decide : 4 + 0 ≤ _)⟩)
    dsimp only [Pt.U, Pt.locs, Pt.cells, Pt.slots] at X49 l49 y49 z49 st49 hQ49
    subst l49 y49 z49
    obtain ⟨rfl, rfl, eq47⟩ := hQ49
    try rw [List.append_nil] at X49
    have S50 : ∀ t, Steps p.tables e below (T49.setTop (mkF m 96 #[.val (.int lf), .val (.int tp), .val (.int rg), .val (.int bt), .val (.int px), .val (.int py), .val (.ref b1), .val (.int (own_b (own_em lf tp rg bt)))] [(.int (own_b (own_cv lf tp rg bt (rg - (1 : Int32)) (bt - (1 : Int32)))))])) t → Steps p.tables e below (s₁.setTop (entryFrame m #[(.int lf), (.int tp), (.int rg), (.int bt), (.int px), (.int py)] maxLocals)) t := fun t kt => S48 t (st49 _ kt)
    have hc96_51 : ¬ ((own_b (own_cv lf tp rg bt (rg - (1 : Int32)) (bt - (1 : Int32)))) = (0 : Int32)) := own_p3 hc33
    have S52 : ∀ t, Steps p.tables e below (T49.setTop (mkF m 102 #[.val (.int lf), .val (.int tp), .val (.int rg), .val (.int bt), .val (.int px), .val (.int py), .val (.ref b1), .val (.int (own_b (own_em lf tp rg bt)))] [(.int (1 : Int32))])) t → Steps p.tables e below (s₁.setTop (entryFrame m #[(.int lf), (.int tp), (.int rg), (.int bt), (.int px), (.int py)] maxLocals)) t := fun t kt => by
      refine S50 t ?_
      show Steps p.tables e below (T49.setTop (mkF m 96 #[.val (.int lf), .val (.int tp), .val (.int rg), .val (.int bt), .val (.int px), .val (.int py), .val (.ref b1), .val (.int (own_b (own_em lf tp rg bt)))] [(.int (own_b (own_cv lf tp rg bt (rg - (1 : Int32)) (bt - (1 : Int32)))))])) t
      refine XS.ifYes X49.here hx rfl (pc0 := 96) (pc' := 101) rfl (hb hby at_96) rfl ((if0 _ _).trans (feq hc96_51).2) (by decide) (by decide) ?_
      show Steps p.tables e below (T49.setTop (mkF m 101 #[.val (.int lf), .val (.int tp), .val (.int rg), .val (.int bt), .val (.int px), .val (.int py), .val (.ref b1), .val (.int (own_b (own_em lf tp rg bt)))] [])) t
      refine XS.iconst X49.here hx rfl (hb hby at_101) ?_
      exact kt
    obtain ⟨fs, hr, hrun, hended, hW, hsame⟩ := X49.leave (v := some (.int (nar .boolean (1 : Int32)))) (fun h => by rw [Bd.returns] at h; cases h)
    refine ⟨_, _, S52 _ ?_, hrun, hended, _, _, rfl, ?_, ⟨_, rfl⟩, hW, hsame.mono (by decide) (by decide)⟩
    · show Steps p.tables e below (T49.setTop (mkF m 102 #[.val (.int lf), .val (.int tp), .val (.int rg), .val (.int bt), .val (.int px), .val (.int py), .val (.ref b1), .val (.int (own_b (own_em lf tp rg bt)))] [(.int (1 : Int32))])) _
      exact retN X49 hx (t := .boolean) Bd.returns (by simp) (hb hby at_102) hr
    · show own_Q0 Z lf tp rg bt px py st_EMPTY h0 n0 _ T49.heap _
      rw [eq47]
      exact ⟨rfl, N16⟩
  · skip
    have S54 : ∀ t, Steps p.tables e below (T32.setTop (mkF m 44 #[.val (.int lf), .val (.int tp), .val (.int rg), .val (.int bt), .val (.int px), .val (.int py), .val (.ref b1), .val (.int (own_b (own_em lf tp rg bt)))] [(.int py), (.int px), (.int bt), (.int rg), (.int tp), (.int lf)])) t → Steps p.tables e below (s₁.setTop (entryFrame m #[(.int lf), (.int tp), (.int rg), (.int bt), (.int px), (.int py)] maxLocals)) t := fun t kt => by
      refine S35 t ?_
      show Steps p.tables e below (T32.setTop (mkF m 33 #[.val (.int lf), .val (.int tp), .val (.int rg), .val (.int bt), .val (.int px), .val (.int py), .val (.ref b1), .val (.int (own_b (own_em lf tp rg bt)))] [(.int (own_b (own_em lf tp rg bt)))])) t
      refine XS.ifNo X32.here hx rfl (hb hby at_33) rfl ((if0 _ _).trans (feq hc33).1) ?_
      show Steps p.tables e below (T32.setTop (mkF m 36 #[.val (.int lf), .val (.int tp), .val (.int rg), .val (.int bt), .val (.int px), .val (.int py), .val (.ref b1), .val (.int (own_b (own_em lf tp rg bt)))] [])) t
      refine XS.iloadN X32.here hx rfl (hb hby at_36) rfl ?_
      show Steps p.tables e below (T32.setTop (mkF m 37 #[.val (.int lf), .val (.int tp), .val (.int rg), .val (.int bt), .val (.int px), .val (.int py), .val (.ref b1), .val (.int (own_b (own_em lf tp rg bt)))] [(.int lf)])) t
      refine XS.iloadN X32.here hx rfl (hb hby at_37) rfl ?_
      show Steps p.tables e below (T32.setTop (mkF m 38 #[.val (.int lf), .val (.int tp), .val (.int rg), .val (.int bt), .val (.int px), .val (.int py), .val (.ref b1), .val (.int (own_b (own_em lf tp rg bt)))] [(.int tp), (.int lf)])) t
      refine XS.iloadN X32.here hx rfl (hb hby at_38) rfl ?_
      show Steps p.tables e below (T32.setTop (mkF m 39 #[.val (.int lf), .val (.int tp), .val (.int rg), .val (.int bt), .val (.int px), .val (.int py), .val (.ref b1), .val (.int (own_b (own_em lf tp rg bt)))] [(.int rg), (.int tp), (.int lf)])) t
      refine XS.iloadN X32.here hx rfl (hb hby at_39) rfl ?_
      show Steps p.tables e below (T32.setTop (mkF m 40 #[.val (.int lf), .val (.int tp), .val (.int rg), .val (.int bt), .val (.int px), .val (.int py), .val (.ref b1), .val (.int (own_b (own_em lf tp rg bt)))] [(.int bt), (.int rg), (.int tp), (.int lf)])) t
      refine XS.iload X32.here hx rfl (hb hby at_40) rfl ?_
      show Steps p.tables e below (T32.setTop (mkF m 42 #[.val (.int lf), .val (.int tp), .val (.int rg), .val (.int bt), .val (.int px), .val (.int py), .val (.ref b1), .val (.int (own_b (own_em lf tp rg bt)))] [(.int px), (.int bt), (.int rg), (.int tp), (.int lf)])) t
      refine XS.iload X32.here hx rfl (hb hby at_42) rfl ?_
      exact kt
    obtain ⟨_, _, ⟨T55, L55, k55, n55⟩, -, X55, ⟨Lc55, hQ55, l55, y55, z55⟩, st55⟩ := Jvm.LawKit.callS X32 hx (y := (⟨"com/example/mullion/mullion/model/BoundsIsEmptyPinLaw", "covers", "(IIIIII)Z"⟩ : MethodName)) hown (mvT hZ (hw _ (List.mem_of_getElem? (i := 29) rfl))) (mvT hZ (hw _ (List.mem_of_getElem? (i := 30) rfl))) (mvT hZ (hw _ (List.mem_of_getElem? (i := 31) rfl))) (mvT hZ (hw _ (List.mem_of_getElem? (i := 32) rfl))) (by decide) (backOf (W := 0) (own_rm5 l Z a0 hw [] (lf) (tp) (rg) (bt) (px) (py) T15.heap n0 (Nat.le_trans Z0 K23.1)) hZ (hw _ (List.mem_of_getElem? (i := 32) rfl)) (hw _ (List.mem_of_getElem? (i := 31) rfl)) (by decide) (by decide)) (g := (mkF m 44 #[.val (.int lf), .val (.int tp), .val (.int rg), .val (.int bt), .val (.int px), .val (.int py), .val (.ref b1), .val (.int (own_b (own_em lf tp rg bt)))] [(.int py), (.int px), (.int bt), (.int rg), (.int tp), (.int lf)])) rfl (by rw [hml]; rfl) (argsL := [(.int lf), (.int tp), (.int rg), (.int bt), (.int px), (.int py)]) (rest := []) (lenOf own_pd3 rfl) rfl (by show 2 * 0 + _ ≤ _; exact Nat.le_of_eq rfl) (hb hby at_44) (fun _ _ => ⟨rfl, eq31, (by decide : 1 + 0 ≤ _), (by decide : 4 + 0 ≤ _)⟩)
    dsimp only [Pt.U, Pt.locs, Pt.cells, Pt.slots] at X55 l55 y55 z55 st55 hQ55
    subst l55 y55 z55
    obtain ⟨rfl, rfl, eq53⟩ := hQ55
    try rw [List.append_nil] at X55
    have S56 : ∀ t, Steps p.tables e below (T55.setTop (mkF m 47 #[.val (.int lf), .val (.int tp), .val (.int rg), .val (.int bt), .val (.int px), .val (.int py), .val (.ref b1), .val (.int (own_b (own_em lf tp rg bt)))] [(.int (own_b (own_cv lf tp rg bt px py)))])) t → Steps p.tables e below (s₁.setTop (entryFrame m #[(.int lf), (.int tp), (.int rg), (.int bt), (.int px), (.int py)] maxLocals)) t := fun t kt => S54 t (st55 _ kt)
    have hc47_57 : (own_b (own_cv lf tp rg bt px py)) = (0 : Int32) := own_p1 hc33
    have S58 : ∀ t, Steps p.tables e below (T55.setTop (mkF m 54 #[.val (.int lf), .val (.int tp), .val (.int rg), .val (.int bt), .val (.int px), .val (.int py), .val (.ref b1), .val (.int (own_b (own_em lf tp rg bt)))] [(.int (own_b (own_em lf tp rg bt)))])) t → Steps p.tables e below (s₁.setTop (entryFrame m #[(.int lf), (.int tp), (.int rg), (.int bt), (.int px), (.int py)] maxLocals)) t := fun t kt => by
      refine S56 t ?_
      show Steps p.tables e below (T55.setTop (mkF m 47 #[.val (.int lf), .val (.int tp), .val (.int rg), .val (.int bt), .val (.int px), .val (.int py), .val (.ref b1), .val (.int (own_b (own_em lf tp rg bt)))] [(.int (own_b (own_cv lf tp rg bt px py)))])) t
      refine XS.ifYes X55.here hx rfl (pc0 := 47) (pc' := 52) rfl (hb hby at_47) rfl ((if0 _ _).trans (teq hc47_57).1) (by decide) (by decide) ?_
      show Steps p.tables e below (T55.setTop (mkF m 52 #[.val (.int lf), .val (.int tp), .val (.int rg), .val (.int bt), .val (.int px), .val (.int py), .val (.ref b1), .val (.int (own_b (own_em lf tp rg bt)))] [])) t
      refine XS.iload X55.here hx rfl (hb hby at_52) rfl ?_
      exact kt
    have hc54_59 : ¬ ((own_b (own_em lf tp rg bt)) = (0 : Int32)) := hc33
    have S60 : ∀ t, Steps p.tables e below (T55.setTop (mkF m 102 #[.val (.int lf), .val (.int tp), .val (.int rg), .val (.int bt), .val (.int px), .val (.int py), .val (.ref b1), .val (.int (own_b (own_em lf tp rg bt)))] [(.int (1 : Int32))])) t → Steps p.tables e below (s₁.setTop (entryFrame m #[(.int lf), (.int tp), (.int rg), (.int bt), (.int px), (.int py)] maxLocals)) t := fun t kt => by
      refine S58 t ?_
      show Steps p.tables e below (T55.setTop (mkF m 54 #[.val (.int lf), .val (.int tp), .val (.int rg), .val (.int bt), .val (.int px), .val (.int py), .val (.ref b1), .val (.int (own_b (own_em lf tp rg bt)))] [(.int (own_b (own_em lf tp rg bt)))])) t
      refine XS.ifYes X55.here hx rfl (pc0 := 54) (pc' := 101) rfl (hb hby at_54) rfl ((if0 _ _).trans (feq hc54_59).2) (by decide) (by decide) ?_
      show Steps p.tables e below (T55.setTop (mkF m 101 #[.val (.int lf), .val (.int tp), .val (.int rg), .val (.int bt), .val (.int px), .val (.int py), .val (.ref b1), .val (.int (own_b (own_em lf tp rg bt)))] [])) t
      refine XS.iconst X55.here hx rfl (hb hby at_101) ?_
      exact kt
    obtain ⟨fs, hr, hrun, hended, hW, hsame⟩ := X55.leave (v := some (.int (nar .boolean (1 : Int32)))) (fun h => by rw [Bd.returns] at h; cases h)
    refine ⟨_, _, S60 _ ?_, hrun, hended, _, _, rfl, ?_, ⟨_, rfl⟩, hW, hsame.mono (by decide) (by decide)⟩
    · show Steps p.tables e below (T55.setTop (mkF m 102 #[.val (.int lf), .val (.int tp), .val (.int rg), .val (.int bt), .val (.int px), .val (.int py), .val (.ref b1), .val (.int (own_b (own_em lf tp rg bt)))] [(.int (1 : Int32))])) _
      exact retN X55 hx (t := .boolean) Bd.returns (by simp) (hb hby at_102) hr
    · show own_Q0 Z lf tp rg bt px py st_EMPTY h0 n0 _ T55.heap _
      rw [eq53]
      exact ⟨rfl, N16⟩
set_option maxHeartbeats 40000000 in
theorem own_comes {Post : Tables → Env → Array Value → State → Outcome → State → Prop} (hpost : ∀ tb e args s v u, (limb_1_1.after args s (.returned v) u = true ∧ limb_1_2.after args s (.returned v) u = true ∧ True) → FrameEnd s (.returned v) u (Jvm.fieldLocs frame_1_writes args s ++ Jvm.arrayLocs frame_1_arrays args s ++ Jvm.staticLocs frame_1_statics s) 16 128 → Post tb e args s (.returned v) u) :
    ArmFor flags0 classFile x code maxLocals ret World_1 tables_1 room_1 Calls_1 rest_1 Pre_1 Post := by
  intro l hfl _ _ p e ha hc hk s m args below hf hA hF happ hP
  obtain ⟨hcalls, hrest, hpre⟩ := hP
  obtain ⟨-, -, -, hnamed, -, -, -, hat⟩ := (Spec.applies_iff hf).mp happ
  obtain ⟨hg, hn⟩ := and_e (Cond.before_iff.mp (show (Jvm.Cond.and given_1 narrow_1).before args s = true from hpre))
  obtain ⟨g1, g2⟩ := and_e hg
  obtain ⟨g3, g4⟩ := and_e g2
  obtain ⟨g5, g6⟩ := and_e g4
  obtain ⟨g7, g8⟩ := and_e g6
  obtain ⟨g9, g10⟩ := and_e g8
  obtain ⟨g11, g12⟩ := and_e g10
  obtain ⟨g13, g14⟩ := and_e hn
  obtain ⟨g15, g16⟩ := and_e g14
  obtain ⟨w0, w1, w2, w3, w4, w5, rfl⟩ : ∃ w0 w1 w2 w3 w4 w5 : Value, args = #[w0, w1, w2, w3, w4, w5] := by
    have hs : args.size = 6 := by simpa [Cond.value, given_1] using g1
    obtain ⟨L⟩ := args
    match L, hs with
    | [w0, w1, w2, w3, w4, w5], _ => exact ⟨w0, w1, w2, w3, w4, w5, rfl⟩
  have hw := fun d (hd : d ∈ tables_1) => atoms_spec (ws := Jvm.Cond.code x code maxLocals ret :: tables_1) hat d (List.mem_cons_of_mem _ hd)
  have hfit : Fit s := fun {y c} hc i hi => by
    obtain ⟨ha, rfl⟩ := Array.getElem?_eq_some_iff.mp hc
    have q := List.all_eq_true.mp ((Array.all_eq_true_iff_forall_mem.mp hF) _ (Array.getElem_mem ha)) i (List.mem_range.mpr hi)
    simpa [Array.getElem?_eq_getElem hi] using q
  obtain ⟨i0, ei0⟩ := is_v g3
  obtain rfl : w0 = (.int i0) := Option.some.inj ei0
  obtain ⟨i1, ei1⟩ := is_v g5
  obtain rfl : w1 = (.int i1) := Option.some.inj ei1
  obtain ⟨i2, ei2⟩ := is_v g7
  obtain rfl : w2 = (.int i2) := Option.some.inj ei2
  obtain ⟨i3, ei3⟩ := is_v g9
  obtain rfl : w3 = (.int i3) := Option.some.inj ei3
  obtain ⟨i4, ei4⟩ := is_v g11
  obtain rfl : w4 = (.int i4) := Option.some.inj ei4
  obtain ⟨i5, ei5⟩ := is_v g12
  obtain rfl : w5 = (.int i5) := Option.some.inj ei5
  obtain ⟨st_EMPTY, ev_EMPTY⟩ := exa_v g13
  have S_EMPTY : Sta s s.heap "com/example/mullion/mullion/model/Bounds" "EMPTY" "Lcom/example/mullion/mullion/model/Bounds;" (.ref st_EMPTY) := Sta.start ev_EMPTY (Or.inr ⟨(hw _ (List.mem_of_getElem? (i := 2) rfl)), (hw _ (List.mem_of_getElem? (i := 28) rfl))⟩)
  have E_EMPTY : Exa s s.heap st_EMPTY "com/example/mullion/mullion/model/Bounds" := Exa.start ev_EMPTY g13
  have F_EMPTY_right : Fld s s.heap st_EMPTY "com/example/mullion/mullion/model/Bounds" "right" "I" (.int (0 : Int32)) := by
    obtain ⟨vx, vy, ex, ey, kx, ky⟩ := cmp_v (Or.inl g15)
    obtain rfl : vy = .int (0 : Int32) := (Option.some.inj ey).symm
    obtain ⟨vz, rfl⟩ := ky
    have hq := gotT (Cond.eq_ints ex ey) g15
    subst hq
    exact Fld.start ((fld_at ev_EMPTY).symm.trans ex)
  have F_EMPTY_left : Fld s s.heap st_EMPTY "com/example/mullion/mullion/model/Bounds" "left" "I" (.int (0 : Int32)) := by
    obtain ⟨vx, vy, ex, ey, kx, ky⟩ := cmp_v (Or.inl g16)
    obtain rfl : vy = .int (0 : Int32) := (Option.some.inj ey).symm
    obtain ⟨vz, rfl⟩ := ky
    have hq := gotT (Cond.eq_ints ex ey) g16
    subst hq
    exact Fld.start ((fld_at ev_EMPTY).symm.trans ex)
  obtain ⟨n, o, h1, h2, h3, _, L, rfl, ⟨rfl, N⟩, hq⟩ := own_rm0 l s _ hw tables_1 i0 i1 i2 i3 i4 i5 st_EMPTY s.heap s.heap.size (Nat.le_refl _) S_EMPTY E_EMPTY F_EMPTY_left F_EMPTY_right p e ha hc hk s m _ below hf ((Spec.applies_iff_loose hf).mp happ).1 ⟨rfl, State.Warmed39.refl s, rfl⟩ trivial
  refine ⟨n, _, h1, h2, h3, hpost _ _ _ _ _ _ ⟨Cond.after_iff.mpr rfl, Cond.after_iff.mpr (eq_i res_at (Term.int_eval (1)) rfl), trivial⟩ ⟨hq.1, hq.2.1, (hq.2.2.sift fun y hy => Or.inr (N y hy)).mono (by decide) (by decide)⟩⟩
theorem main_1_1 : Claimed_1_1 := own_comes fun _ _ _ _ _ _ h hF => ⟨h.1, hF⟩
theorem main_1_2 : Claimed_1_2 := own_comes fun _ _ _ _ _ _ h hF => ⟨h.2.1, hF⟩
end Jvm.Pilot.@@N@@
namespace Jvm.Pilot.@@N@@
open Jvm Jvm.ClassFile Sem Op Lib Jvm.Free Jvm.Stand Jvm.Pilot.@@N@@.Jvm.D
/-! MADE BY PROGRAM (witnessworld.py) out of the Statement's table words and the real class files: 10 classes; the members and pool entries that the words name. The judged class is class 1, her method 2. -/
namespace start1
open Jvm.ClassFile
def u (s : String) : CpInfo := .utf8 (stringToUtf16 s)
/-- a pool by its gaps: so many unusable entries, then the entry; so many at the end -/
def gap : Nat → List CpInfo → List CpInfo
  | 0, r => r
  | n + 1, r => .unusable :: gap n r
def poolList (es : List (Nat × CpInfo)) (last : Nat) : List CpInfo := es.foldr (fun e r => gap e.1 (e.2 :: r)) (gap last [])
def pool (es : List (Nat × CpInfo)) (last : Nat) : Array CpInfo := ⟨poolList es last⟩
def fileOf (pool : Array CpInfo) (this : Nat) (attrs : Array Attribute := #[]) (ms : Array MethodInfo := #[]) (fl : Nat := 33) (sup : Nat := 0) (ifs : Array Nat := #[]) (fds : Array FieldInfo := #[]) : ClassFile where
  minorVersion := 0
  majorVersion := 65
  constantPool := pool
  accessFlags := fl
  thisClass := this
  superClass := sup
  interfaces := ifs
  fields := fds
  methods := ms
  attributes := attrs
def plain (name : String) (sup : Option ClassId) : Class where
  name := name
  kind := .ordinary
  loader := none
  accessFlags := 33
  super := sup
  interfaces := #[]
  cf := none
  fields := #[]
  methods := #[]
  instanceTypes := #[]
  staticTypes := #[]
  resolved := #[]
  callSites := []
  init := .initialized
  statics := none
  mirror := none

def pool0 : Array CpInfo := pool [(5, u "<init>"), (0, u "()V"), (1, .class_ 10), (1, u "java/lang/Object")] 113

def k0c0 : Code := { maxStack := 0, maxLocals := 1, code := object_method_1_code, exceptionTable := #[], attributes := #[] }
def k0m0 : Method := { name := "<init>", desc := "()V", sig := { parameters := [], returnType := none }, accessFlags := 1, code := some k0c0 }
/-- java/lang/Object -/
def k0 : Class := { plain "java/lang/Object" none with
  accessFlags := 33
  interfaces := #[]
  cf := some (fileOf pool0 8 #[] #[{ accessFlags := 1, nameIndex := 5, descriptorIndex := 6, attributes := #[] }] 33 0 #[] #[])
  fields := #[]
  methods := #[k0m0]
  instanceTypes := #[]
  staticTypes := #[]
  resolved := Array.replicate 124 none
  statics := none }

def pool1 : Array CpInfo := pool [(2, .class_ 4), (1, u "java/lang/Object"), (0, u "<init>"), (0, u "()V"), (0, .class_ 8), (0, u "com/example/mullion/mullion/model/Bounds"), (0, .methodref 7 10), (0, .nameAndType 5 11), (0, u "(IIII)V"), (0, .methodref 7 13), (0, .nameAndType 14 15), (0, u "isEmpty"), (0, u "()Z"), (0, .fieldref 7 17), (0, .nameAndType 18 19), (0, u "EMPTY"), (0, u "Lcom/example/mullion/mullion/model/Bounds;"), (0, .methodref 21 22), (0, .class_ 23), (0, .nameAndType 24 25), (0, u "com/example/mullion/mullion/model/BoundsIsEmptyPinLaw"), (0, u "covers"), (0, u "(IIIIII)Z"), (3, u "law")] 2

def k1m0 : Method := { name := "<init>", desc := "()V", sig := { parameters := [], returnType := none }, accessFlags := 1, code := none }
def k1c1 : Code := { maxStack := 2, maxLocals := 6, code := method_2_code, exceptionTable := #[], attributes := #[] }
def k1m1 : Method := { name := "covers", desc := "(IIIIII)Z", sig := { parameters := [.int, .int, .int, .int, .int, .int], returnType := some .boolean }, accessFlags := 10, code := some k1c1 }
def k1c2 : Code := { maxStack := 7, maxLocals := 8, code := code, exceptionTable := #[], attributes := #[] }
def k1m2 : Method := { name := "law", desc := "(IIIIII)Z", sig := { parameters := [.int, .int, .int, .int, .int, .int], returnType := some .boolean }, accessFlags := 9, code := some k1c2 }
/-- com/example/mullion/mullion/model/BoundsIsEmptyPinLaw -/
def k1 : Class := { plain "com/example/mullion/mullion/model/BoundsIsEmptyPinLaw" (some 0) with
  accessFlags := 49
  interfaces := #[]
  cf := some (fileOf pool1 21 #[] #[{ accessFlags := 1, nameIndex := 5, descriptorIndex := 6, attributes := #[] }, { accessFlags := 10, nameIndex := 24, descriptorIndex := 25, attributes := #[] }, { accessFlags := 9, nameIndex := 29, descriptorIndex := 25, attributes := #[] }] 49 2 #[] #[])
  fields := #[]
  methods := #[k1m0, k1m1, k1m2]
  instanceTypes := #[]
  staticTypes := #[]
  resolved := Array.replicate 32 none
  statics := none }

def pool2 : Array CpInfo := pool [(1, .methodref 2 3), (0, .class_ 4), (0, .nameAndType 5 6), (0, u "java/lang/Object"), (0, u "<init>"), (0, u "()V"), (0, .class_ 8), (0, u "java/lang/Record")] 13

def k2c0 : Code := { maxStack := 1, maxLocals := 1, code := jdk_30_method_1_code, exceptionTable := #[], attributes := #[] }
def k2m0 : Method := { name := "<init>", desc := "()V", sig := { parameters := [], returnType := none }, accessFlags := 4, code := some k2c0 }
/-- java/lang/Record -/
def k2 : Class := { plain "java/lang/Record" (some 0) with
  accessFlags := 1057
  interfaces := #[]
  cf := some (fileOf pool2 7 #[] #[{ accessFlags := 4, nameIndex := 5, descriptorIndex := 6, attributes := #[] }] 1057 2 #[] #[])
  fields := #[]
  methods := #[k2m0]
  instanceTypes := #[]
  staticTypes := #[]
  resolved := Array.replicate 22 none
  statics := none }

def pool3 : Array CpInfo := pool [(1, .methodref 2 3), (0, .class_ 4), (0, .nameAndType 5 6), (0, u "java/lang/Record"), (0, u "<init>"), (0, u "()V"), (0, .fieldref 8 9), (0, .class_ 10), (0, .nameAndType 11 12), (0, u "com/example/mullion/mullion/model/Bounds"), (0, u "left"), (0, u "I"), (0, .fieldref 8 14), (0, .nameAndType 15 12), (0, u "top"), (0, .fieldref 8 17), (0, .nameAndType 18 12), (0, u "right"), (0, .fieldref 8 20), (0, .nameAndType 21 12), (0, u "bottom"), (14, u "(IIII)V"), (2, u "EMPTY"), (0, u "Lcom/example/mullion/mullion/model/Bounds;"), (3, u "isEmpty"), (0, u "()Z")] 28

def k3c0 : Code := { maxStack := 2, maxLocals := 5, code := prog_17_method_1_code, exceptionTable := #[], attributes := #[] }
def k3m0 : Method := { name := "<init>", desc := "(IIII)V", sig := { parameters := [.int, .int, .int, .int], returnType := none }, accessFlags := 1, code := some k3c0 }
def k3c1 : Code := { maxStack := 2, maxLocals := 1, code := prog_17_method_2_code, exceptionTable := #[], attributes := #[] }
def k3m1 : Method := { name := "isEmpty", desc := "()Z", sig := { parameters := [], returnType := some .boolean }, accessFlags := 1, code := some k3c1 }
/-- com/example/mullion/mullion/model/Bounds -/
def k3 : Class := { plain "com/example/mullion/mullion/model/Bounds" (some 2) with
  accessFlags := 49
  interfaces := #[]
  cf := some (fileOf pool3 8 #[] #[{ accessFlags := 1, nameIndex := 5, descriptorIndex := 36, attributes := #[] }, { accessFlags := 1, nameIndex := 44, descriptorIndex := 45, attributes := #[] }] 49 2 #[] #[{ accessFlags := 18, nameIndex := 11, descriptorIndex := 12, attributes := #[] }, { accessFlags := 18, nameIndex := 15, descriptorIndex := 12, attributes := #[] }, { accessFlags := 18, nameIndex := 18, descriptorIndex := 12, attributes := #[] }, { accessFlags := 18, nameIndex := 21, descriptorIndex := 12, attributes := #[] }, { accessFlags := 25, nameIndex := 39, descriptorIndex := 40, attributes := #[] }])
  fields := #[{ name := "left", type := .int, accessFlags := 18, slot := 0, constantValue := 0 }, { name := "top", type := .int, accessFlags := 18, slot := 1, constantValue := 0 }, { name := "right", type := .int, accessFlags := 18, slot := 2, constantValue := 0 }, { name := "bottom", type := .int, accessFlags := 18, slot := 3, constantValue := 0 }, { name := "EMPTY", type := (.object "com/example/mullion/mullion/model/Bounds"), accessFlags := 25, slot := 0, constantValue := 0 }]
  methods := #[k3m0, k3m1]
  instanceTypes := #[.int, .int, .int, .int]
  staticTypes := #[(.object "com/example/mullion/mullion/model/Bounds")]
  resolved := Array.replicate 74 none
  statics := some 0 }

def pool4 : Array CpInfo := pool [(1, u "java/lang/Cloneable"), (0, .class_ 1), (0, u "java/lang/Object"), (0, .class_ 3)] 3

/-- java/lang/Cloneable -/
def k4 : Class := { plain "java/lang/Cloneable" (some 0) with
  accessFlags := 1537
  interfaces := #[]
  cf := some (fileOf pool4 2 #[] #[] 1537 4 #[] #[])
  fields := #[]
  methods := #[]
  instanceTypes := #[]
  staticTypes := #[]
  resolved := Array.replicate 8 none
  statics := none }

def pool5 : Array CpInfo := pool [(1, u "java/io/Serializable"), (0, .class_ 1), (0, u "java/lang/Object"), (0, .class_ 3)] 3

/-- java/io/Serializable -/
def k5 : Class := { plain "java/io/Serializable" (some 0) with
  accessFlags := 1537
  interfaces := #[]
  cf := some (fileOf pool5 2 #[] #[] 1537 4 #[] #[])
  fields := #[]
  methods := #[]
  instanceTypes := #[]
  staticTypes := #[]
  resolved := Array.replicate 8 none
  statics := none }

/-- the primitive byte -/
def k6 : Class := { plain "byte" none with kind := .primitive 'B', accessFlags := 0x411 }
/-- [B -/
def k7 : Class := { plain "[B" (some 0) with kind := .array 6 .byte, interfaces := #[4, 5], accessFlags := 1041 }

/-- the primitive int -/
def k8 : Class := { plain "int" none with kind := .primitive 'I', accessFlags := 0x411 }
/-- [I -/
def k9 : Class := { plain "[I" (some 0) with kind := .array 8 .int, interfaces := #[4, 5], accessFlags := 1041 }

def heap : Heap := #[{ cls := 3, slots := #[.ref 1], vm := .statics 3 },
  { cls := 3, slots := #[.int 0, .int 0, .int 0, .int 0], vm := .none }]
def classes : Array Class := #[k0, k1, k2, k3, k4, k5, k6, k7, k8, k9]
def interned : List (Array UInt16 × Addr) := []
def slotsUsed : Nat := 5
def theMethod : MethodId := ⟨1, 2⟩
def args0 : Array Value := #[.int 1, .int 2, .int 3, .int 4, .int 5, .int 6]
def aboutOver (below : List Frame) : State where
  vm := { classes := classes, interned := interned.toArray }
  heap := heap
  slotsUsed := slotsUsed
  threads := #[{ frames := .invoking theMethod args0 :: below }]
def below0 : List Frame := [.native { method := ⟨0, 0⟩, args := #[] }]
def about1 : State := aboutOver below0
def p0 : Program := .bare "" "" ""
def e0 : Env := launch0.env 0 0 0
theorem w_frames : about1.frames = Frame.invoking theMethod args0 :: below0 := rfl
set_option maxRecDepth 65536 in
theorem w_args : argsFit about1.vm theMethod args0 = true := by decide +kernel
set_option maxRecDepth 65536 in
theorem w_heap : heapFits about1 = true := by decide +kernel
set_option maxRecDepth 65536 in
theorem w_runnable : about1.curStatus? = some .runnable := by decide +kernel
set_option maxRecDepth 65536 in
theorem w_alone : about1.alone = true := by decide +kernel
set_option maxRecDepth 65536 in
theorem w_named : about1.methodNamed? x = some theMethod := by decide +kernel
set_option maxRecDepth 65536 in
theorem w_hears : about1.hears theMethod below0 = true := by decide +kernel
set_option maxRecDepth 65536 in
theorem w_ripe : about1.ripe theMethod args0 below0 = true := by decide +kernel
theorem w_running : about1.status = .running := rfl
set_option maxRecDepth 65536 in
theorem w_room : about1.hasRoom e0.platform room_1 = true :=
  launch0.hasRoom_least _ room_1 (by decide +kernel) (by decide +kernel) (by decide +kernel) (by decide +kernel) (by decide +kernel) (by decide +kernel)
theorem allAtoms_all (ts : List Jvm.Cond) (a : Array Jvm.Value) (st : Jvm.State) : (allAtoms ts).before a st = ts.all (fun c => c.before a st) := by
  induction ts with
  | nil => rfl
  | cons c t ih =>
    show (Jvm.Cond.and c (allAtoms t)).before a st = _
    rw [Jvm.Cond.before_and, ih, List.all_cons]
def words1 : List Jvm.Cond := Jvm.Cond.code x code maxLocals ret :: tables_1
/-- a 'code' word, met by the world's own term for the bytes: nothing is compared byte by byte -/
theorem code_word {y : MethodName} {bytes : ByteArray} {mx : Nat} {rt : Option FieldType} {a : Array Value} {s : State} {m : MethodId} {meth : Method} {c : Code} (h1 : s.methodNamed? y = some m) (h2 : s.vm.method? m = some meth) (h3 : meth.code = some c) (h4 : c.code = bytes)
    (h5 : (c.maxLocals == mx && c.exceptionTable.isEmpty && decide (c.maxStack ≤ mostOperands) && decide (meth.sig.returnType = rt) && !meth.locks && decide (parseMethodDescriptor y.desc = some meth.sig)) = true) : (Jvm.Cond.code y bytes mx rt).before a s = true := by
  simp only [Bool.and_eq_true, beq_iff_eq, Bool.not_eq_true', decide_eq_true_eq] at h5
  obtain ⟨⟨⟨⟨⟨g1, g2⟩, g3⟩, g4⟩, g5⟩, g6⟩ := h5
  simp [Cond.before, Cond.holds, Cond.value, h1, h2, h3, h4, g1, g2, g3, g4, g5, g6]
def isCode : Jvm.Cond → Bool
  | .code _ _ _ _ => true
  | _ => false
theorem all_split {L : List Jvm.Cond} {P : Jvm.Cond → Bool} (h1 : L.all (fun c => isCode c || P c) = true) (h2 : ∀ c ∈ L.filter isCode, P c = true) : L.all P = true := by
  refine List.all_eq_true.mpr fun c hc => ?_
  have h := List.all_eq_true.mp h1 c hc
  rcases Bool.eq_false_or_eq_true (isCode c) with hi | hi
  · exact h2 c (List.mem_filter.mpr ⟨hc, hi⟩)
  · simpa [hi] using h
set_option maxRecDepth 65536 in
theorem w_c0 : (Jvm.Cond.code x code maxLocals ret).before args0 about1 = true := code_word (m := ⟨1, 2⟩) (meth := k1m2) (c := k1c2) (by decide +kernel) rfl rfl rfl (by decide +kernel)
set_option maxRecDepth 65536 in
theorem w_c1 : (Jvm.Cond.code ({ cls := "com/example/mullion/mullion/model/Bounds", name := "<init>", desc := "(IIII)V" } : Jvm.MethodName) prog_17_method_1_code (5 : Nat) (Option.none : Option Jvm.ClassFile.FieldType)).before args0 about1 = true := code_word (m := ⟨3, 0⟩) (meth := k3m0) (c := k3c0) (by decide +kernel) rfl rfl rfl (by decide +kernel)
set_option maxRecDepth 65536 in
theorem w_c2 : (Jvm.Cond.code ({ cls := "java/lang/Record", name := "<init>", desc := "()V" } : Jvm.MethodName) jdk_30_method_1_code (1 : Nat) (Option.none : Option Jvm.ClassFile.FieldType)).before args0 about1 = true := code_word (m := ⟨2, 0⟩) (meth := k2m0) (c := k2c0) (by decide +kernel) rfl rfl rfl (by decide +kernel)
set_option maxRecDepth 65536 in
theorem w_c3 : (Jvm.Cond.code ({ cls := "java/lang/Object", name := "<init>", desc := "()V" } : Jvm.MethodName) object_method_1_code (1 : Nat) (Option.none : Option Jvm.ClassFile.FieldType)).before args0 about1 = true := code_word (m := ⟨0, 0⟩) (meth := k0m0) (c := k0c0) (by decide +kernel) rfl rfl rfl (by decide +kernel)
set_option maxRecDepth 65536 in
theorem w_c4 : (Jvm.Cond.code ({ cls := "com/example/mullion/mullion/model/Bounds", name := "isEmpty", desc := "()Z" } : Jvm.MethodName) prog_17_method_2_code (1 : Nat) (Option.some Jvm.ClassFile.FieldType.boolean)).before args0 about1 = true := code_word (m := ⟨3, 1⟩) (meth := k3m1) (c := k3c1) (by decide +kernel) rfl rfl rfl (by decide +kernel)
set_option maxRecDepth 65536 in
theorem w_c5 : (Jvm.Cond.code ({ cls := "com/example/mullion/mullion/model/BoundsIsEmptyPinLaw", name := "covers", desc := "(IIIIII)Z" } : Jvm.MethodName) method_2_code (6 : Nat) (Option.some Jvm.ClassFile.FieldType.boolean)).before args0 about1 = true := code_word (m := ⟨1, 1⟩) (meth := k1m1) (c := k1c1) (by decide +kernel) rfl rfl rfl (by decide +kernel)
def codes1 : List Jvm.Cond := [Jvm.Cond.code x code maxLocals ret, Jvm.Cond.code ({ cls := "com/example/mullion/mullion/model/Bounds", name := "<init>", desc := "(IIII)V" } : Jvm.MethodName) prog_17_method_1_code (5 : Nat) (Option.none : Option Jvm.ClassFile.FieldType), Jvm.Cond.code ({ cls := "java/lang/Record", name := "<init>", desc := "()V" } : Jvm.MethodName) jdk_30_method_1_code (1 : Nat) (Option.none : Option Jvm.ClassFile.FieldType), Jvm.Cond.code ({ cls := "java/lang/Object", name := "<init>", desc := "()V" } : Jvm.MethodName) object_method_1_code (1 : Nat) (Option.none : Option Jvm.ClassFile.FieldType), Jvm.Cond.code ({ cls := "com/example/mullion/mullion/model/Bounds", name := "isEmpty", desc := "()Z" } : Jvm.MethodName) prog_17_method_2_code (1 : Nat) (Option.some Jvm.ClassFile.FieldType.boolean), Jvm.Cond.code ({ cls := "com/example/mullion/mullion/model/BoundsIsEmptyPinLaw", name := "covers", desc := "(IIIIII)Z" } : Jvm.MethodName) method_2_code (6 : Nat) (Option.some Jvm.ClassFile.FieldType.boolean)]
set_option maxRecDepth 65536 in
theorem codes_eq : words1.filter isCode = codes1 := rfl
theorem w_codes : ∀ c ∈ words1.filter isCode, c.before args0 about1 = true := by
  rw [codes_eq]
  intro c hc
  simp only [codes1, List.mem_cons, List.not_mem_nil, or_false] at hc
  rcases hc with rfl | rfl | rfl | rfl | rfl | rfl
  · exact w_c0
  · exact w_c1
  · exact w_c2
  · exact w_c3
  · exact w_c4
  · exact w_c5
set_option maxRecDepth 65536 in
theorem w_t1 : (words1.take 24).all (fun c => isCode c || c.before args0 about1) = true := by decide +kernel
set_option maxRecDepth 65536 in
theorem w_t2 : (words1.drop 24).all (fun c => isCode c || c.before args0 about1) = true := by decide +kernel
theorem w_tables : (allAtoms (Jvm.Cond.code x code maxLocals ret :: tables_1)).before args0 about1 = true := by
  rw [allAtoms_all]
  show words1.all (fun c => c.before args0 about1) = true
  refine all_split ?_ w_codes
  rw [← List.take_append_drop 24 words1, List.all_append, w_t1, w_t2]
  rfl
set_option maxRecDepth 65536 in
theorem w_case : (Jvm.Cond.and given_1 narrow_1).before args0 about1 = true := by decide +kernel
theorem w_applies : (headSpec (Jvm.Cond.code x code maxLocals ret :: tables_1) room_1).applies x e0.platform about1 = true :=
  (Spec.applies_iff w_frames).mpr ⟨w_running, w_runnable, w_alone, w_named, w_hears, w_ripe, w_room, w_tables⟩
theorem atStart : AtStart classFile x code maxLocals ret World_1 tables_1 room_1 Calls_1 rest_1 Pre_1 launch0 p0 e0 about1 theMethod args0 below0 :=
  ⟨lists_1, trivial, launch0.admits_env _ _ _, launch0.least_env, fairChoices_fair.cas, fairChoices_fair.clock, w_frames, w_args, w_heap, w_applies, trivial, trivial, w_case⟩
end start1
theorem witness_1 : WitnessClaimed_1 := ⟨start1.p0, start1.e0, start1.about1, start1.theMethod, start1.args0, start1.below0, start1.atStart⟩
end Jvm.Pilot.@@N@@
