import JvmDerived
import JvmDerived.Pilot.@@N@@Statement
import JvmDerived.Pilot.@@N@@Code
set_option linter.unusedVariables false
set_option linter.unusedSimpArgs false
set_option maxRecDepth 65536
namespace Jvm.Pilot.@@N@@
open Jvm Jvm.ClassFile Sem Op Lib Jvm.Free Jvm.Stand Jvm.LawKit Jvm.RoadKit Bundle Jvm.Pilot.@@N@@.Jvm.D
section OwnKit
variable {p : Program} {l : Launch} {e : Env} {R : Room} {s : State} {m : MethodId} {args : Array Value} {below : List Frame} {meth : Method} {c : Code} {T : State} {locs : List Loc} {cells slots : Nat}
theorem own_retI (X : Stand p l e R s m args below meth c T locs cells slots) (hx : p.tables.exec = Jvm.exec) {pc : Nat} {Ls : Array Slot} {z : Int32} {rest : List Value} (hret : meth.sig.returnType = some .int) (hd : decode c.code pc = .ok (.ireturn, 1)) {fs : List Frame}
    (hl : ∀ (f : JFrame) (acts : List Action), f.method = m → f.locked = none → f.entered = [] → (doReturn e (T.setTop f) acts (some (.int z))).1 = T.setFrames fs) : Steps p.tables e below (T.setTop (mkF m pc Ls (.int z :: rest))) (T.setFrames fs) := by
  have hm' : T.vm.method? m = some meth := X.method'
  have hn : narrow .int (.int z) = .int z := rfl
  show Steps p.tables e below (T.setTop { method := m, pc := pc, locals := Ls, stack := _ :: rest, locked := none }) _
  jvm_step X.here [X.here.top, hx, hd, hm', hret, hn]
  first | (intro acts; rw [hl _ acts rfl rfl rfl]) | rw [hl _ _ rfl rfl rfl]
  exact Steps.refl _
/-- where the run stands, with the same writes and figures as at X -/
abbrev own_like (_ : Stand p l e R s m args below meth c T locs cells slots) (T' : State) : Prop := Stand p l e R s m args below meth c T' locs cells slots
end OwnKit
theorem own_Llt {a b : Int64} (h : a < b) : ifCond.holds .lt (lcmpW a b) = true ∧ ifCond.holds .ge (lcmpW a b) = false ∧ ifCond.holds .gt (lcmpW b a) = true ∧ ifCond.holds .le (lcmpW b a) = false := by
  simp only [if0]
  exact ⟨(tlt ((lw_lt a b).mpr h)).1, (tlt ((lw_lt a b).mpr h)).2.1, (tlt ((lw_gt b a).mpr h)).2.2.1, (tlt ((lw_gt b a).mpr h)).2.2.2⟩
theorem own_Lnl {a b : Int64} (h : ¬ a < b) : ifCond.holds .lt (lcmpW a b) = false ∧ ifCond.holds .ge (lcmpW a b) = true ∧ ifCond.holds .gt (lcmpW b a) = false ∧ ifCond.holds .le (lcmpW b a) = true := by
  simp only [if0]
  have h1 : ¬ lcmpW a b < 0 := fun q => h ((lw_lt a b).mp q)
  have h2 : ¬ 0 < lcmpW b a := fun q => h ((lw_gt b a).mp q)
  exact ⟨(flt h1).1, (flt h1).2.1, (flt h2).2.2.1, (flt h2).2.2.2⟩
theorem own_Leq {a b : Int64} (h : a = b) : ifCond.holds .eq (lcmpW a b) = true ∧ ifCond.holds .ne (lcmpW a b) = false := by
  simp only [if0]
  exact teq ((lw_eq a b).mpr h)
theorem own_Lne {a b : Int64} (h : ¬ a = b) : ifCond.holds .eq (lcmpW a b) = false ∧ ifCond.holds .ne (lcmpW a b) = true := by
  simp only [if0]
  exact feq fun q => h ((lw_eq a b).mp q)
theorem own_StaK {Z : State} {h h' : Heap} {C n d : String} {v : Value} {ws : List Addr} (F : Sta Z h C n d v) (K : Keep h h' ws) (q : ∀ x ∈ ws, ∃ c : Cell, h[x]? = some c ∧ c.vm.isStatics = false) : Sta Z h' C n d v := by
  obtain ⟨cf, i, k, f, st, cell, h1, h2, h3, h4, h5, h6, h7⟩ := F
  refine ⟨cf, i, k, f, st, cell, h1, h2, h3, h4, K.2.1 st cell h5 (fun hm => ?_), h6, h7⟩
  obtain ⟨c, e1, e2⟩ := q _ hm
  rw [h5] at e1
  cases e1
  rw [h6] at e2
  cases e2
theorem own_ExaS {Z : State} {h : Heap} {a : Addr} {C : String} (E : Exa Z h a C) : ∃ c : Cell, h[a]? = some c ∧ c.vm.isStatics = false := by
  obtain ⟨c, k, e1, -, -, e2, -⟩ := E
  exact ⟨c, e1, e2⟩
/-- a boolean as the JVM's int -/
def own_b (b : Bool) : Int32 := if b then 1 else 0
theorem own_b_t : own_b true = 1 := rfl
theorem own_b_f : own_b false = 0 := rfl
theorem own_b0 {b : Bool} : own_b b = 0 ↔ b = false := by cases b <;> decide
theorem own_b_inj {b c : Bool} : own_b b = own_b c ↔ b = c := by cases b <;> cases c <;> decide
theorem own_leafT {b : Bool} (h : b = true) : (some (.int (nar .boolean (1 : Int32))) : Option Value) = some (.int (own_b b)) := by subst h; rfl
theorem own_leafF {b : Bool} (h : b = false) : (some (.int (nar .boolean (0 : Int32))) : Option Value) = some (.int (own_b b)) := by subst h; rfl
theorem own_bt {b : Bool} (h : b = true) : (1 : Int32) = own_b b := by subst h; rfl
theorem own_bf {b : Bool} (h : b = false) : (0 : Int32) = own_b b := by subst h; rfl
theorem own_b_nar (b : Bool) : nar .boolean (own_b b) = own_b b := by cases b <;> rfl
def own_gt (a b : UInt64) : Bool := decide ((0 : Int32) < cmpValue (FP.dcmp a b) .g)
def own_rng (a b : Int64) : Prop := -2147483648 ≤ a.toInt ∧ a.toInt ≤ b.toInt ∧ b.toInt < 4294967296
theorem own_r1 (x y : Int32) : own_rng x.toInt64 (x.toInt64 + (y &&& (2147483647 : Int32)).toInt64) := by
  unfold own_rng
  have m := c_mask y (2147483647 : Int32) 31 (by decide) (by decide)
  have a := c_ladd x.toInt64 (y &&& (2147483647 : Int32)).toInt64
  have r := rng64 (x.toInt64 + (y &&& (2147483647 : Int32)).toInt64)
  have c1 := c_i2l x
  have c2 := c_i2l (y &&& (2147483647 : Int32))
  have rx := rng32 x
  omega
theorem own_dint {a : Int64} (h1 : -2147483648 ≤ a.toInt) (h2 : a.toInt < 4294967296) : FP.Core.DInt a.toInt (FP.l2d a) := FP.Core.l2d_int (by omega)
theorem own_gt_int {a b : Int64} (ha : -2147483648 ≤ a.toInt ∧ a.toInt < 4294967296) (hb : -2147483648 ≤ b.toInt ∧ b.toInt < 4294967296) : ((0 : Int32) < cmpValue (FP.dcmp (FP.l2d a) (FP.l2d b)) .g) ↔ b.toInt < a.toInt := by
  have e : FP.dcmp (FP.l2d a) (FP.l2d b) = some (compare a.toInt b.toInt) := FP.Core.dcmp_int (own_dint ha.1 ha.2) (own_dint hb.1 hb.2)
  rw [e]
  rcases Int.lt_trichotomy a.toInt b.toInt with h | h | h
  · rw [show compare a.toInt b.toInt = .lt by show compareOfLessAndEq _ _ = _; unfold compareOfLessAndEq; rw [if_pos h]]
    exact ⟨fun q => absurd q (by decide), fun q => by omega⟩
  · rw [h, show compare b.toInt b.toInt = .eq by show compareOfLessAndEq _ _ = _; unfold compareOfLessAndEq; rw [if_neg (by omega), if_pos rfl]]
    exact ⟨fun q => absurd q (by decide), fun q => by omega⟩
  · rw [show compare a.toInt b.toInt = .gt by show compareOfLessAndEq _ _ = _; unfold compareOfLessAndEq; rw [if_neg (by omega), if_neg (by omega)]]
    exact ⟨fun _ => h, fun _ => by decide⟩
def own_meets (a1 a2 a3 a4 b1 b2 b3 b4 : UInt64) : Bool := !own_gt a1 b2 && !own_gt b1 a2 && !own_gt a3 b4 && !own_gt b3 a4
def own_max (a b : Int64) : Int64 := if a < b then b else a
def own_min (a b : Int64) : Int64 := if b < a then b else a
theorem own_max_i (a b : Int64) : (own_max a b).toInt = max a.toInt b.toInt := by
  unfold own_max; split <;> rename_i h <;> rw [Int64.lt_iff_toInt_lt] at h <;> omega
theorem own_min_i (a b : Int64) : (own_min a b).toInt = min a.toInt b.toInt := by
  unfold own_min; split <;> rename_i h <;> rw [Int64.lt_iff_toInt_lt] at h <;> omega
theorem own_plain {p1 p2 p3 p4 q1 q2 q3 q4 : Int64} (h1 : own_rng p1 p2) (h2 : own_rng p3 p4) (h3 : own_rng q1 q2) (h4 : own_rng q3 q4) :
    own_meets (FP.l2d p1) (FP.l2d p2) (FP.l2d p3) (FP.l2d p4) (FP.l2d q1) (FP.l2d q2) (FP.l2d q3) (FP.l2d q4) = (decide (¬ own_min p2 q2 < own_max p1 q1) && decide (¬ own_min p4 q4 < own_max p3 q3)) ∧
    own_meets (FP.l2d q1) (FP.l2d q2) (FP.l2d q3) (FP.l2d q4) (FP.l2d p1) (FP.l2d p2) (FP.l2d p3) (FP.l2d p4) = (decide (¬ own_min p2 q2 < own_max p1 q1) && decide (¬ own_min p4 q4 < own_max p3 q3)) := by
  unfold own_rng at h1 h2 h3 h4
  unfold own_meets own_gt
  have g1 := own_gt_int (a := p1) (b := q2) (by omega) (by omega)
  have g2 := own_gt_int (a := q1) (b := p2) (by omega) (by omega)
  have g3 := own_gt_int (a := p3) (b := q4) (by omega) (by omega)
  have g4 := own_gt_int (a := q3) (b := p4) (by omega) (by omega)
  constructor <;> rw [Bool.eq_iff_iff] <;> simp only [Bool.and_eq_true, Bool.not_eq_true', decide_eq_false_iff_not, decide_eq_true_eq, Int64.lt_iff_toInt_lt, own_max_i, own_min_i, g1, g2, g3, g4] <;> omega
theorem own_d1_0 : decode prog_28_method_1_code 0 = .ok (.aload_n 0, 1) := by decide +kernel
theorem own_d1_1 : decode prog_28_method_1_code 1 = .ok (.invokespecial 1, 3) := by decide +kernel
theorem own_d1_4 : decode prog_28_method_1_code 4 = .ok (.dload_n 1, 1) := by decide +kernel
theorem own_d1_5 : decode prog_28_method_1_code 5 = .ok (.dload_n 3, 1) := by decide +kernel
theorem own_d1_6 : decode prog_28_method_1_code 6 = .ok (.dcmp .g, 1) := by decide +kernel
theorem own_d1_7 : decode prog_28_method_1_code 7 = .ok (.ifCond .gt 11, 3) := by decide +kernel
theorem own_d1_10 : decode prog_28_method_1_code 10 = .ok (.dload 5, 2) := by decide +kernel
theorem own_d1_12 : decode prog_28_method_1_code 12 = .ok (.dload 7, 2) := by decide +kernel
theorem own_d1_14 : decode prog_28_method_1_code 14 = .ok (.dcmp .g, 1) := by decide +kernel
theorem own_d1_15 : decode prog_28_method_1_code 15 = .ok (.ifCond .le 22, 3) := by decide +kernel
theorem own_d1_37 : decode prog_28_method_1_code 37 = .ok (.aload_n 0, 1) := by decide +kernel
theorem own_d1_38 : decode prog_28_method_1_code 38 = .ok (.dload_n 1, 1) := by decide +kernel
theorem own_d1_39 : decode prog_28_method_1_code 39 = .ok (.putfield 16, 3) := by decide +kernel
theorem own_d1_42 : decode prog_28_method_1_code 42 = .ok (.aload_n 0, 1) := by decide +kernel
theorem own_d1_43 : decode prog_28_method_1_code 43 = .ok (.dload_n 3, 1) := by decide +kernel
theorem own_d1_44 : decode prog_28_method_1_code 44 = .ok (.putfield 22, 3) := by decide +kernel
theorem own_d1_47 : decode prog_28_method_1_code 47 = .ok (.aload_n 0, 1) := by decide +kernel
theorem own_d1_48 : decode prog_28_method_1_code 48 = .ok (.dload 5, 2) := by decide +kernel
theorem own_d1_50 : decode prog_28_method_1_code 50 = .ok (.putfield 25, 3) := by decide +kernel
theorem own_d1_53 : decode prog_28_method_1_code 53 = .ok (.aload_n 0, 1) := by decide +kernel
theorem own_d1_54 : decode prog_28_method_1_code 54 = .ok (.dload 7, 2) := by decide +kernel
theorem own_d1_56 : decode prog_28_method_1_code 56 = .ok (.putfield 28, 3) := by decide +kernel
theorem own_d1_59 : decode prog_28_method_1_code 59 = .ok (.return_, 1) := by decide +kernel
theorem own_ef1 (m : MethodId) (x0 : Addr) (x1 : UInt64) (x2 : UInt64) (x3 : UInt64) (x4 : UInt64) : entryFrame m #[(.ref x0), (.double x1), (.double x2), (.double x3), (.double x4)] 9 = mkF m 0 #[.val (.ref x0), .val (.double x1), .second, .val (.double x2), .second, .val (.double x3), .second, .val (.double x4), .second] [] := by first | (simp [entryFrame, mkF, argsToLocals, Value.category]; done) | rfl
def own_Q1 (Z : State) (a : Addr) (d1 : UInt64) (d2 : UInt64) (d3 : UInt64) (d4 : UInt64) (u0 : Value) (u1 : Value) (u2 : Value) (u3 : Value) (h0 : Heap) (n0 : Nat) (v : Option Value) (h : Heap) (L : List Loc) : Prop := v = none ∧ Fr n0 L ∧ Keep h0 h [a] ∧ Exa Z h a "com/example/siteward/siteward/plane/Box" ∧ Fld Z h a "com/example/siteward/siteward/plane/Box" "xMin" "D" (.double d1) ∧ Fld Z h a "com/example/siteward/siteward/plane/Box" "xMax" "D" (.double d2) ∧ Fld Z h a "com/example/siteward/siteward/plane/Box" "yMin" "D" (.double d3) ∧ Fld Z h a "com/example/siteward/siteward/plane/Box" "yMax" "D" (.double d4)
theorem own_pn0 : plainName "com/example/siteward/siteward/plane/Box" = true := by first | (simp [plainName, overriddenIn]; done) | decide +kernel
set_option maxHeartbeats 40000000 in
theorem own_rm1 (l : Launch) (Z : State) (a0 : Array Value) (hw : ∀ d ∈ tables_1, d.before a0 Z = true) (ws : List Jvm.Cond) (a : Addr) (d1 : UInt64) (d2 : UInt64) (d3 : UInt64) (d4 : UInt64) (u0 : Value) (u1 : Value) (u2 : Value) (u3 : Value) (h0 : Heap) (n0 : Nat) (Z0 : n0 ≤ h0.size) (E_a : Exa Z h0 a "com/example/siteward/siteward/plane/Box") (g_a : n0 ≤ a) (F_xMin : Fld Z h0 a "com/example/siteward/siteward/plane/Box" "xMin" "D" u0) (F_xMax : Fld Z h0 a "com/example/siteward/siteward/plane/Box" "xMax" "D" u1) (F_yMin : Fld Z h0 a "com/example/siteward/siteward/plane/Box" "yMin" "D" u2) (F_yMax : Fld Z h0 a "com/example/siteward/siteward/plane/Box" "yMax" "D" u3) (hdx : ¬ (0 : Int32) < (cmpValue (FP.dcmp d1 d2) .g)) (hdy : ¬ (0 : Int32) < (cmpValue (FP.dcmp d3 d4) .g)) :
    MetFree l (⟨"com/example/siteward/siteward/plane/Box", "<init>", "(DDDD)V"⟩ : MethodName) (head1 (Jvm.Cond.code (⟨"com/example/siteward/siteward/plane/Box", "<init>", "(DDDD)V"⟩ : MethodName) prog_28_method_1_code 9 none :: ws) ({ frames := 1, cells := 0, slots := 0, locals := 12 } : Room)) (fun argv U => argv = #[(.ref a), (.double d1), (.double d2), (.double d3), (.double d4)] ∧ Z.Warmed39 U.vm ∧ U.heap = h0) (fun _ _ _ _ _ => True) (fun _ U o U' => ∃ v L, o = .returned v ∧ own_Q1 Z a d1 d2 d3 d4 u0 u1 u2 u3 h0 n0 v U'.heap L ∧ FrameEnd U o U' L ({ frames := 1, cells := 0, slots := 0, locals := 12 } : Room).cells ({ frames := 1, cells := 0, slots := 0, locals := 12 } : Room).slots) := by
  refine MetFree.of_bodySF (plainFor_of_name own_pn0) hisR ?_
  intro p e s m args below meth c s₁ Bd hml0 hP hK
  obtain ⟨rfl, hZ, hh⟩ := hP
  have hx := Bd.exec
  have hby := Bd.bytes
  have hml : c.maxLocals = 9 := hml0
  have hown : s.vm.findClass "com/example/siteward/siteward/plane/Box" = some m.cls := findClass_of_methodNamed Bd.named
  have hnm := (name_of_methodNamed Bd.named Bd.method).1
  have X0 : Stand p l e ({ frames := 1, cells := 0, slots := 0, locals := 12 } : Room) s m #[(.ref a), (.double d1), (.double d2), (.double d3), (.double d4)] below meth c s₁ [] 0 0 := Stand.of_body Bd
  have e0 : s₁.heap = h0 := by rw [← hh, Bd.state]; rfl
  have N0 := Fr.nil n0
  have pre0 : ∀ t, Steps p.tables e below (s₁.setTop (mkF m 0 #[.val (.ref a), .val (.double d1), .second, .val (.double d2), .second, .val (.double d3), .second, .val (.double d4), .second] [])) t → Steps p.tables e below (s₁.setTop (entryFrame m #[(.ref a), (.double d1), (.double d2), (.double d3), (.double d4)] 9)) t := fun t k => castTop (own_ef1 m a d1 d2 d3 d4) k
  have S1 : ∀ t, Steps p.tables e below (s₁.setTop (mkF m 1 #[.val (.ref a), .val (.double d1), .second, .val (.double d2), .second, .val (.double d3), .second, .val (.double d4), .second] [(.ref a)])) t → Steps p.tables e below (s₁.setTop (entryFrame m #[(.ref a), (.double d1), (.double d2), (.double d3), (.double d4)] 9)) t := fun t kt => by
    refine pre0 t ?_
    show Steps p.tables e below (s₁.setTop (mkF m 0 #[.val (.ref a), .val (.double d1), .second, .val (.double d2), .second, .val (.double d3), .second, .val (.double d4), .second] [])) t
    refine XS.aloadN X0.here hx rfl (hb hby own_d1_0) rfl rfl ?_
    exact kt
  obtain ⟨T2, X2, e2, st2⟩ := initO X0 hx hZ hown (hw _ (List.mem_of_getElem? (i := 7) rfl)) (hw _ (List.mem_of_getElem? (i := 8) rfl)) (hw _ (List.mem_of_getElem? (i := 9) rfl)) e0 (g := (mkF m 1 #[.val (.ref a), .val (.double d1), .second, .val (.double d2), .second, .val (.double d3), .second, .val (.double d4), .second] [(.ref a)])) rfl (by rw [hml]; rfl) rfl (hb hby own_d1_1) (by decide) (W := 0) (by show 2 * 0 + _ ≤ _; exact Nat.le_of_eq rfl) (by decide)
  have S3 : ∀ t, Steps p.tables e below (T2.setTop (mkF m 4 #[.val (.ref a), .val (.double d1), .second, .val (.double d2), .second, .val (.double d3), .second, .val (.double d4), .second] [])) t → Steps p.tables e below (s₁.setTop (entryFrame m #[(.ref a), (.double d1), (.double d2), (.double d3), (.double d4)] 9)) t := fun t kt => S1 t (st2 _ kt)
  have S4 : ∀ t, Steps p.tables e below (T2.setTop (mkF m 7 #[.val (.ref a), .val (.double d1), .second, .val (.double d2), .second, .val (.double d3), .second, .val (.double d4), .second] [(.int (cmpValue (FP.dcmp d1 d2) .g))])) t → Steps p.tables e below (s₁.setTop (entryFrame m #[(.ref a), (.double d1), (.double d2), (.double d3), (.double d4)] 9)) t := fun t kt => by
    refine S3 t ?_
    show Steps p.tables e below (T2.setTop (mkF m 4 #[.val (.ref a), .val (.double d1), .second, .val (.double d2), .second, .val (.double d3), .second, .val (.double d4), .second] [])) t
    jvm_step X2.here [X2.here.top, hx, (hb hby own_d1_4)]
    show Steps p.tables e below (T2.setTop (mkF m 5 #[.val (.ref a), .val (.double d1), .second, .val (.double d2), .second, .val (.double d3), .second, .val (.double d4), .second] [(.double d1)])) t
    jvm_step X2.here [X2.here.top, hx, (hb hby own_d1_5)]
    show Steps p.tables e below (T2.setTop (mkF m 6 #[.val (.ref a), .val (.double d1), .second, .val (.double d2), .second, .val (.double d3), .second, .val (.double d4), .second] [(.double d2), (.double d1)])) t
    jvm_step X2.here [X2.here.top, hx, (hb hby own_d1_6)]
    exact kt
  have hc7_5 : ¬ ((0 : Int32) < (cmpValue (FP.dcmp d1 d2) .g)) := hdx
  have S6 : ∀ t, Steps p.tables e below (T2.setTop (mkF m 15 #[.val (.ref a), .val (.double d1), .second, .val (.double d2), .second, .val (.double d3), .second, .val (.double d4), .second] [(.int (cmpValue (FP.dcmp d3 d4) .g))])) t → Steps p.tables e below (s₁.setTop (entryFrame m #[(.ref a), (.double d1), (.double d2), (.double d3), (.double d4)] 9)) t := fun t kt => by
    refine S4 t ?_
    show Steps p.tables e below (T2.setTop (mkF m 7 #[.val (.ref a), .val (.double d1), .second, .val (.double d2), .second, .val (.double d3), .second, .val (.double d4), .second] [(.int (cmpValue (FP.dcmp d1 d2) .g))])) t
    refine XS.ifNo X2.here hx rfl (hb hby own_d1_7) rfl ((if0 _ _).trans (flt hc7_5).2.2.1) ?_
    show Steps p.tables e below (T2.setTop (mkF m 10 #[.val (.ref a), .val (.double d1), .second, .val (.double d2), .second, .val (.double d3), .second, .val (.double d4), .second] [])) t
    jvm_step X2.here [X2.here.top, hx, (hb hby own_d1_10)]
    show Steps p.tables e below (T2.setTop (mkF m 12 #[.val (.ref a), .val (.double d1), .second, .val (.double d2), .second, .val (.double d3), .second, .val (.double d4), .second] [(.double d3)])) t
    jvm_step X2.here [X2.here.top, hx, (hb hby own_d1_12)]
    show Steps p.tables e below (T2.setTop (mkF m 14 #[.val (.ref a), .val (.double d1), .second, .val (.double d2), .second, .val (.double d3), .second, .val (.double d4), .second] [(.double d4), (.double d3)])) t
    jvm_step X2.here [X2.here.top, hx, (hb hby own_d1_14)]
    exact kt
  have hc15_7 : ¬ ((0 : Int32) < (cmpValue (FP.dcmp d3 d4) .g)) := hdy
  have S8 : ∀ t, Steps p.tables e below (T2.setTop (mkF m 39 #[.val (.ref a), .val (.double d1), .second, .val (.double d2), .second, .val (.double d3), .second, .val (.double d4), .second] [(.double d1), (.ref a)])) t → Steps p.tables e below (s₁.setTop (entryFrame m #[(.ref a), (.double d1), (.double d2), (.double d3), (.double d4)] 9)) t := fun t kt => by
    refine S6 t ?_
    show Steps p.tables e below (T2.setTop (mkF m 15 #[.val (.ref a), .val (.double d1), .second, .val (.double d2), .second, .val (.double d3), .second, .val (.double d4), .second] [(.int (cmpValue (FP.dcmp d3 d4) .g))])) t
    refine XS.ifYes X2.here hx rfl (pc0 := 15) (pc' := 37) rfl (hb hby own_d1_15) rfl ((if0 _ _).trans (flt hc15_7).2.2.2) (by decide) (by decide) ?_
    show Steps p.tables e below (T2.setTop (mkF m 37 #[.val (.ref a), .val (.double d1), .second, .val (.double d2), .second, .val (.double d3), .second, .val (.double d4), .second] [])) t
    refine XS.aloadN X2.here hx rfl (hb hby own_d1_37) rfl rfl ?_
    show Steps p.tables e below (T2.setTop (mkF m 38 #[.val (.ref a), .val (.double d1), .second, .val (.double d2), .second, .val (.double d3), .second, .val (.double d4), .second] [(.ref a)])) t
    jvm_step X2.here [X2.here.top, hx, (hb hby own_d1_38)]
    exact kt
  obtain ⟨T9, h9, X9, e9, W9, st9⟩ := putF X2 hx hZ hown (host := "") (Or.inl (hw _ (List.mem_of_getElem? (i := 10) rfl))) Via.refl e2 F_xMin E_a (Or.inr ⟨(hw _ (List.mem_of_getElem? (i := 11) rfl)), rfl, hnm⟩) (hw _ (List.mem_of_getElem? (i := 2) rfl)) (ty := .double) (by decide) rfl rfl (g := (mkF m 39 #[.val (.ref a), .val (.double d1), .second, .val (.double d2), .second, .val (.double d3), .second, .val (.double d4), .second] [(.double d1), (.ref a)])) rfl rfl (hb hby own_d1_39)
  have S10 : ∀ t, Steps p.tables e below (T9.setTop (mkF m 42 #[.val (.ref a), .val (.double d1), .second, .val (.double d2), .second, .val (.double d3), .second, .val (.double d4), .second] [])) t → Steps p.tables e below (s₁.setTop (entryFrame m #[(.ref a), (.double d1), (.double d2), (.double d3), (.double d4)] 9)) t := fun t kt => S8 t (st9 _ kt)
  have F11 := E_a.wr W9
  have F12 := F_xMin.same W9
  have F13 := F_xMax.other W9 (Or.inr (slot_ne (Or.inr (hw _ (List.mem_of_getElem? (i := 13) rfl))) (Or.inr (hw _ (List.mem_of_getElem? (i := 11) rfl))) (by decide) (t := .double) (t' := .double) (by decide) (by decide)))
  have F14 := F_yMin.other W9 (Or.inr (slot_ne (Or.inr (hw _ (List.mem_of_getElem? (i := 15) rfl))) (Or.inr (hw _ (List.mem_of_getElem? (i := 11) rfl))) (by decide) (t := .double) (t' := .double) (by decide) (by decide)))
  have F15 := F_yMax.other W9 (Or.inr (slot_ne (Or.inr (hw _ (List.mem_of_getElem? (i := 17) rfl))) (Or.inr (hw _ (List.mem_of_getElem? (i := 11) rfl))) (by decide) (t := .double) (t' := .double) (by decide) (by decide)))
  have N16 := Fr.snoc X9 N0 g_a
  have K17 : Keep h0 h9 [a] := (Keep.refl h0 [a]).wr W9 (Or.inl (List.mem_of_getElem? (i := 0) rfl))
  have S18 : ∀ t, Steps p.tables e below (T9.setTop (mkF m 44 #[.val (.ref a), .val (.double d1), .second, .val (.double d2), .second, .val (.double d3), .second, .val (.double d4), .second] [(.double d2), (.ref a)])) t → Steps p.tables e below (s₁.setTop (entryFrame m #[(.ref a), (.double d1), (.double d2), (.double d3), (.double d4)] 9)) t := fun t kt => by
    refine S10 t ?_
    show Steps p.tables e below (T9.setTop (mkF m 42 #[.val (.ref a), .val (.double d1), .second, .val (.double d2), .second, .val (.double d3), .second, .val (.double d4), .second] [])) t
    refine XS.aloadN X9.here hx rfl (hb hby own_d1_42) rfl rfl ?_
    show Steps p.tables e below (T9.setTop (mkF m 43 #[.val (.ref a), .val (.double d1), .second, .val (.double d2), .second, .val (.double d3), .second, .val (.double d4), .second] [(.ref a)])) t
    jvm_step X9.here [X9.here.top, hx, (hb hby own_d1_43)]
    exact kt
  obtain ⟨T19, h19, X19, e19, W19, st19⟩ := putF X9 hx hZ hown (host := "") (Or.inl (hw _ (List.mem_of_getElem? (i := 12) rfl))) Via.refl e9 F13 F11 (Or.inr ⟨(hw _ (List.mem_of_getElem? (i := 13) rfl)), rfl, hnm⟩) (hw _ (List.mem_of_getElem? (i := 2) rfl)) (ty := .double) (by decide) rfl rfl (g := (mkF m 44 #[.val (.ref a), .val (.double d1), .second, .val (.double d2), .second, .val (.double d3), .second, .val (.double d4), .second] [(.double d2), (.ref a)])) rfl rfl (hb hby own_d1_44)
  have S20 : ∀ t, Steps p.tables e below (T19.setTop (mkF m 47 #[.val (.ref a), .val (.double d1), .second, .val (.double d2), .second, .val (.double d3), .second, .val (.double d4), .second] [])) t → Steps p.tables e below (s₁.setTop (entryFrame m #[(.ref a), (.double d1), (.double d2), (.double d3), (.double d4)] 9)) t := fun t kt => S18 t (st19 _ kt)
  have F21 := F11.wr W19
  have F22 := F12.other W19 (Or.inr (slot_ne (Or.inr (hw _ (List.mem_of_getElem? (i := 11) rfl))) (Or.inr (hw _ (List.mem_of_getElem? (i := 13) rfl))) (by decide) (t := .double) (t' := .double) (by decide) (by decide)))
  have F23 := F13.same W19
  have F24 := F14.other W19 (Or.inr (slot_ne (Or.inr (hw _ (List.mem_of_getElem? (i := 15) rfl))) (Or.inr (hw _ (List.mem_of_getElem? (i := 13) rfl))) (by decide) (t := .double) (t' := .double) (by decide) (by decide)))
  have F25 := F15.other W19 (Or.inr (slot_ne (Or.inr (hw _ (List.mem_of_getElem? (i := 17) rfl))) (Or.inr (hw _ (List.mem_of_getElem? (i := 13) rfl))) (by decide) (t := .double) (t' := .double) (by decide) (by decide)))
  have N26 := Fr.snoc X19 N16 g_a
  have K27 : Keep h0 h19 [a] := K17.wr W19 (Or.inl (List.mem_of_getElem? (i := 0) rfl))
  have S28 : ∀ t, Steps p.tables e below (T19.setTop (mkF m 50 #[.val (.ref a), .val (.double d1), .second, .val (.double d2), .second, .val (.double d3), .second, .val (.double d4), .second] [(.double d3), (.ref a)])) t → Steps p.tables e below (s₁.setTop (entryFrame m #[(.ref a), (.double d1), (.double d2), (.double d3), (.double d4)] 9)) t := fun t kt => by
    refine S20 t ?_
    show Steps p.tables e below (T19.setTop (mkF m 47 #[.val (.ref a), .val (.double d1), .second, .val (.double d2), .second, .val (.double d3), .second, .val (.double d4), .second] [])) t
    refine XS.aloadN X19.here hx rfl (hb hby own_d1_47) rfl rfl ?_
    show Steps p.tables e below (T19.setTop (mkF m 48 #[.val (.ref a), .val (.double d1), .second, .val (.double d2), .second, .val (.double d3), .second, .val (.double d4), .second] [(.ref a)])) t
    jvm_step X19.here [X19.here.top, hx, (hb hby own_d1_48)]
    exact kt
  obtain ⟨T29, h29, X29, e29, W29, st29⟩ := putF X19 hx hZ hown (host := "") (Or.inl (hw _ (List.mem_of_getElem? (i := 14) rfl))) Via.refl e19 F24 F21 (Or.inr ⟨(hw _ (List.mem_of_getElem? (i := 15) rfl)), rfl, hnm⟩) (hw _ (List.mem_of_getElem? (i := 2) rfl)) (ty := .double) (by decide) rfl rfl (g := (mkF m 50 #[.val (.ref a), .val (.double d1), .second, .val (.double d2), .second, .val (.double d3), .second, .val (.double d4), .second] [(.double d3), (.ref a)])) rfl rfl (hb hby own_d1_50)
  have S30 : ∀ t, Steps p.tables e below (T29.setTop (mkF m 53 #[.val (.ref a), .val (.double d1), .second, .val (.double d2), .second, .val (.double d3), .second, .val (.double d4), .second] [])) t → Steps p.tables e below (s₁.setTop (entryFrame m #[(.ref a), (.double d1), (.double d2), (.double d3), (.double d4)] 9)) t := fun t kt => S28 t (st29 _ kt)
  have F31 := F21.wr W29
  have F32 := F22.other W29 (Or.inr (slot_ne (Or.inr (hw _ (List.mem_of_getElem? (i := 11) rfl))) (Or.inr (hw _ (List.mem_of_getElem? (i := 15) rfl))) (by decide) (t := .double) (t' := .double) (by decide) (by decide)))
  have F33 := F23.other W29 (Or.inr (slot_ne (Or.inr (hw _ (List.mem_of_getElem? (i := 13) rfl))) (Or.inr (hw _ (List.mem_of_getElem? (i := 15) rfl))) (by decide) (t := .double) (t' := .double) (by decide) (by decide)))
  have F34 := F24.same W29
  have F35 := F25.other W29 (Or.inr (slot_ne (Or.inr (hw _ (List.mem_of_getElem? (i := 17) rfl))) (Or.inr (hw _ (List.mem_of_getElem? (i := 15) rfl))) (by decide) (t := .double) (t' := .double) (by decide) (by decide)))
  have N36 := Fr.snoc X29 N26 g_a
  have K37 : Keep h0 h29 [a] := K27.wr W29 (Or.inl (List.mem_of_getElem? (i := 0) rfl))
  have S38 : ∀ t, Steps p.tables e below (T29.setTop (mkF m 56 #[.val (.ref a), .val (.double d1), .second, .val (.double d2), .second, .val (.double d3), .second, .val (.double d4), .second] [(.double d4), (.ref a)])) t → Steps p.tables e below (s₁.setTop (entryFrame m #[(.ref a), (.double d1), (.double d2), (.double d3), (.double d4)] 9)) t := fun t kt => by
    refine S30 t ?_
    show Steps p.tables e below (T29.setTop (mkF m 53 #[.val (.ref a), .val (.double d1), .second, .val (.double d2), .second, .val (.double d3), .second, .val (.double d4), .second] [])) t
    refine XS.aloadN X29.here hx rfl (hb hby own_d1_53) rfl rfl ?_
    show Steps p.tables e below (T29.setTop (mkF m 54 #[.val (.ref a), .val (.double d1), .second, .val (.double d2), .second, .val (.double d3), .second, .val (.double d4), .second] [(.ref a)])) t
    jvm_step X29.here [X29.here.top, hx, (hb hby own_d1_54)]
    exact kt
  obtain ⟨T39, h39, X39, e39, W39, st39⟩ := putF X29 hx hZ hown (host := "") (Or.inl (hw _ (List.mem_of_getElem? (i := 16) rfl))) Via.refl e29 F35 F31 (Or.inr ⟨(hw _ (List.mem_of_getElem? (i := 17) rfl)), rfl, hnm⟩) (hw _ (List.mem_of_getElem? (i := 2) rfl)) (ty := .double) (by decide) rfl rfl (g := (mkF m 56 #[.val (.ref a), .val (.double d1), .second, .val (.double d2), .second, .val (.double d3), .second, .val (.double d4), .second] [(.double d4), (.ref a)])) rfl rfl (hb hby own_d1_56)
  have S40 : ∀ t, Steps p.tables e below (T39.setTop (mkF m 59 #[.val (.ref a), .val (.double d1), .second, .val (.double d2), .second, .val (.double d3), .second, .val (.double d4), .second] [])) t → Steps p.tables e below (s₁.setTop (entryFrame m #[(.ref a), (.double d1), (.double d2), (.double d3), (.double d4)] 9)) t := fun t kt => S38 t (st39 _ kt)
  have F41 := F31.wr W39
  have F42 := F32.other W39 (Or.inr (slot_ne (Or.inr (hw _ (List.mem_of_getElem? (i := 11) rfl))) (Or.inr (hw _ (List.mem_of_getElem? (i := 17) rfl))) (by decide) (t := .double) (t' := .double) (by decide) (by decide)))
  have F43 := F33.other W39 (Or.inr (slot_ne (Or.inr (hw _ (List.mem_of_getElem? (i := 13) rfl))) (Or.inr (hw _ (List.mem_of_getElem? (i := 17) rfl))) (by decide) (t := .double) (t' := .double) (by decide) (by decide)))
  have F44 := F34.other W39 (Or.inr (slot_ne (Or.inr (hw _ (List.mem_of_getElem? (i := 15) rfl))) (Or.inr (hw _ (List.mem_of_getElem? (i := 17) rfl))) (by decide) (t := .double) (t' := .double) (by decide) (by decide)))
  have F45 := F35.same W39
  have N46 := Fr.snoc X39 N36 g_a
  have K47 : Keep h0 h39 [a] := K37.wr W39 (Or.inl (List.mem_of_getElem? (i := 0) rfl))
  obtain ⟨fs, hr, hrun, hended, hW, hsame⟩ := X39.leave (v := none) (fun _ => rfl)
  refine ⟨_, _, S40 _ ?_, hrun, hended, _, _, rfl, ?_, ⟨_, rfl⟩, hW, hsame.mono (by decide) (by decide)⟩
  · show Steps p.tables e below (T39.setTop (mkF m 59 #[.val (.ref a), .val (.double d1), .second, .val (.double d2), .second, .val (.double d3), .second, .val (.double d4), .second] [])) _
    exact X39.returnOut hx Bd.returns (hb hby own_d1_59) hr
  · show own_Q1 Z a d1 d2 d3 d4 u0 u1 u2 u3 h0 n0 _ T39.heap _
    rw [e39]
    exact ⟨rfl, N46, K47, F41, F42, F43, F44, F45⟩
theorem own_d3_0 : decode jdk_29_method_66_code 0 = .ok (.lload_n 0, 1) := by decide +kernel
theorem own_d3_1 : decode jdk_29_method_66_code 1 = .ok (.lload_n 2, 1) := by decide +kernel
theorem own_d3_2 : decode jdk_29_method_66_code 2 = .ok (.lcmp, 1) := by decide +kernel
theorem own_d3_3 : decode jdk_29_method_66_code 3 = .ok (.ifCond .lt 7, 3) := by decide +kernel
theorem own_d3_6 : decode jdk_29_method_66_code 6 = .ok (.lload_n 0, 1) := by decide +kernel
theorem own_d3_7 : decode jdk_29_method_66_code 7 = .ok (.goto 4, 3) := by decide +kernel
theorem own_d3_10 : decode jdk_29_method_66_code 10 = .ok (.lload_n 2, 1) := by decide +kernel
theorem own_d3_11 : decode jdk_29_method_66_code 11 = .ok (.lreturn, 1) := by decide +kernel
theorem own_ef3 (m : MethodId) (x0 : Int64) (x1 : Int64) : entryFrame m #[(.long x0), (.long x1)] 4 = mkF m 0 #[.val (.long x0), .second, .val (.long x1), .second] [] := by first | (simp [entryFrame, mkF, argsToLocals, Value.category]; done) | rfl
def own_Q3 (Z : State) (u1 : Int64) (u2 : Int64) (h0 : Heap) (n0 : Nat) (v : Option Value) (h : Heap) (L : List Loc) : Prop := v = some (.long (own_max u1 u2)) ∧ L = [] ∧ h = h0
set_option maxHeartbeats 40000000 in
theorem own_rm3 (l : Launch) (Z : State) (a0 : Array Value) (hw : ∀ d ∈ tables_1, d.before a0 Z = true) (ws : List Jvm.Cond) (u1 : Int64) (u2 : Int64) (h0 : Heap) (n0 : Nat) (Z0 : n0 ≤ h0.size) :
    MetFree l (⟨"java/lang/Math", "max", "(JJ)J"⟩ : MethodName) (head1 (Jvm.Cond.code (⟨"java/lang/Math", "max", "(JJ)J"⟩ : MethodName) jdk_29_method_66_code 4 (some .long) :: ws) ({ frames := 0, cells := 0, slots := 0, locals := 0 } : Room)) (fun argv U => argv = #[(.long u1), (.long u2)] ∧ Z.Warmed39 U.vm ∧ U.heap = h0) (fun _ _ _ _ _ => True) (fun _ U o U' => ∃ v L, o = .returned v ∧ own_Q3 Z u1 u2 h0 n0 v U'.heap L ∧ FrameEnd U o U' L ({ frames := 0, cells := 0, slots := 0, locals := 0 } : Room).cells ({ frames := 0, cells := 0, slots := 0, locals := 0 } : Room).slots) := by
  refine MetFree.of_bodySF (Jvm.Free.JP.mathPlain rfl (by decide +kernel)) hisR ?_
  intro p e s m args below meth c s₁ Bd hml0 hP hK
  obtain ⟨rfl, hZ, hh⟩ := hP
  have hx := Bd.exec
  have hby := Bd.bytes
  have hml : c.maxLocals = 4 := hml0
  have hown : s.vm.findClass "java/lang/Math" = some m.cls := findClass_of_methodNamed Bd.named
  have hnm := (name_of_methodNamed Bd.named Bd.method).1
  have X0 : Stand p l e ({ frames := 0, cells := 0, slots := 0, locals := 0 } : Room) s m #[(.long u1), (.long u2)] below meth c s₁ [] 0 0 := Stand.of_body Bd
  have e0 : s₁.heap = h0 := by rw [← hh, Bd.state]; rfl
  have N0 := Fr.nil n0
  have pre0 : ∀ t, Steps p.tables e below (s₁.setTop (mkF m 0 #[.val (.long u1), .second, .val (.long u2), .second] [])) t → Steps p.tables e below (s₁.setTop (entryFrame m #[(.long u1), (.long u2)] 4)) t := fun t k => castTop (own_ef3 m u1 u2) k
  have S1 : ∀ t, Steps p.tables e below (s₁.setTop (mkF m 3 #[.val (.long u1), .second, .val (.long u2), .second] [(.int (lcmpW u1 u2))])) t → Steps p.tables e below (s₁.setTop (entryFrame m #[(.long u1), (.long u2)] 4)) t := fun t kt => by
    refine pre0 t ?_
    show Steps p.tables e below (s₁.setTop (mkF m 0 #[.val (.long u1), .second, .val (.long u2), .second] [])) t
    refine XS.lloadN X0.here hx rfl (hb hby own_d3_0) rfl ?_
    show Steps p.tables e below (s₁.setTop (mkF m 1 #[.val (.long u1), .second, .val (.long u2), .second] [(.long u1)])) t
    refine XS.lloadN X0.here hx rfl (hb hby own_d3_1) rfl ?_
    show Steps p.tables e below (s₁.setTop (mkF m 2 #[.val (.long u1), .second, .val (.long u2), .second] [(.long u2), (.long u1)])) t
    refine XS.lcmp X0.here hx rfl (hb hby own_d3_2) rfl ?_
    exact kt
  by_cases hc3 : u1 < u2
  · skip
    have S2 : ∀ t, Steps p.tables e below (s₁.setTop (mkF m 11 #[.val (.long u1), .second, .val (.long u2), .second] [(.long u2)])) t → Steps p.tables e below (s₁.setTop (entryFrame m #[(.long u1), (.long u2)] 4)) t := fun t kt => by
      refine S1 t ?_
      show Steps p.tables e below (s₁.setTop (mkF m 3 #[.val (.long u1), .second, .val (.long u2), .second] [(.int (lcmpW u1 u2))])) t
      refine XS.ifYes X0.here hx rfl (pc0 := 3) (pc' := 10) rfl (hb hby own_d3_3) rfl (own_Llt hc3).1 (by decide) (by decide) ?_
      show Steps p.tables e below (s₁.setTop (mkF m 10 #[.val (.long u1), .second, .val (.long u2), .second] [])) t
      refine XS.lloadN X0.here hx rfl (hb hby own_d3_10) rfl ?_
      exact kt
    obtain ⟨fs, hr, hrun, hended, hW, hsame⟩ := X0.leave (v := some (.long u2)) (fun h => by rw [Bd.returns] at h; cases h)
    refine ⟨_, _, S2 _ ?_, hrun, hended, _, _, rfl, ?_, ⟨_, rfl⟩, hW, hsame.mono (by decide) (by decide)⟩
    · show Steps p.tables e below (s₁.setTop (mkF m 11 #[.val (.long u1), .second, .val (.long u2), .second] [(.long u2)])) _
      exact X0.lreturnOut hx Bd.returns (hb hby own_d3_11) hr
    · show own_Q3 Z u1 u2 h0 n0 _ s₁.heap _
      rw [e0]
      exact ⟨by simp [own_max, *], rfl, rfl⟩
  · skip
    have S3 : ∀ t, Steps p.tables e below (s₁.setTop (mkF m 11 #[.val (.long u1), .second, .val (.long u2), .second] [(.long u1)])) t → Steps p.tables e below (s₁.setTop (entryFrame m #[(.long u1), (.long u2)] 4)) t := fun t kt => by
      refine S1 t ?_
      show Steps p.tables e below (s₁.setTop (mkF m 3 #[.val (.long u1), .second, .val (.long u2), .second] [(.int (lcmpW u1 u2))])) t
      refine XS.ifNo X0.here hx rfl (hb hby own_d3_3) rfl (own_Lnl hc3).1 ?_
      show Steps p.tables e below (s₁.setTop (mkF m 6 #[.val (.long u1), .second, .val (.long u2), .second] [])) t
      refine XS.lloadN X0.here hx rfl (hb hby own_d3_6) rfl ?_
      show Steps p.tables e below (s₁.setTop (mkF m 7 #[.val (.long u1), .second, .val (.long u2), .second] [(.long u1)])) t
      refine XS.goto X0.here hx rfl (pc0 := 7) (pc' := 11) rfl (hb hby own_d3_7) (by decide) (by decide) ?_
      exact kt
    obtain ⟨fs, hr, hrun, hended, hW, hsame⟩ := X0.leave (v := some (.long u1)) (fun h => by rw [Bd.returns] at h; cases h)
    refine ⟨_, _, S3 _ ?_, hrun, hended, _, _, rfl, ?_, ⟨_, rfl⟩, hW, hsame.mono (by decide) (by decide)⟩
    · show Steps p.tables e below (s₁.setTop (mkF m 11 #[.val (.long u1), .second, .val (.long u2), .second] [(.long u1)])) _
      exact X0.lreturnOut hx Bd.returns (hb hby own_d3_11) hr
    · show own_Q3 Z u1 u2 h0 n0 _ s₁.heap _
      rw [e0]
      exact ⟨by simp [own_max, *], rfl, rfl⟩
theorem own_d4_0 : decode jdk_29_method_70_code 0 = .ok (.lload_n 0, 1) := by decide +kernel
theorem own_d4_1 : decode jdk_29_method_70_code 1 = .ok (.lload_n 2, 1) := by decide +kernel
theorem own_d4_2 : decode jdk_29_method_70_code 2 = .ok (.lcmp, 1) := by decide +kernel
theorem own_d4_3 : decode jdk_29_method_70_code 3 = .ok (.ifCond .gt 7, 3) := by decide +kernel
theorem own_d4_6 : decode jdk_29_method_70_code 6 = .ok (.lload_n 0, 1) := by decide +kernel
theorem own_d4_7 : decode jdk_29_method_70_code 7 = .ok (.goto 4, 3) := by decide +kernel
theorem own_d4_10 : decode jdk_29_method_70_code 10 = .ok (.lload_n 2, 1) := by decide +kernel
theorem own_d4_11 : decode jdk_29_method_70_code 11 = .ok (.lreturn, 1) := by decide +kernel
theorem own_ef4 (m : MethodId) (x0 : Int64) (x1 : Int64) : entryFrame m #[(.long x0), (.long x1)] 4 = mkF m 0 #[.val (.long x0), .second, .val (.long x1), .second] [] := by first | (simp [entryFrame, mkF, argsToLocals, Value.category]; done) | rfl
def own_Q4 (Z : State) (u1 : Int64) (u2 : Int64) (h0 : Heap) (n0 : Nat) (v : Option Value) (h : Heap) (L : List Loc) : Prop := v = some (.long (own_min u1 u2)) ∧ L = [] ∧ h = h0
set_option maxHeartbeats 40000000 in
theorem own_rm4 (l : Launch) (Z : State) (a0 : Array Value) (hw : ∀ d ∈ tables_1, d.before a0 Z = true) (ws : List Jvm.Cond) (u1 : Int64) (u2 : Int64) (h0 : Heap) (n0 : Nat) (Z0 : n0 ≤ h0.size) :
    MetFree l (⟨"java/lang/Math", "min", "(JJ)J"⟩ : MethodName) (head1 (Jvm.Cond.code (⟨"java/lang/Math", "min", "(JJ)J"⟩ : MethodName) jdk_29_method_70_code 4 (some .long) :: ws) ({ frames := 0, cells := 0, slots := 0, locals := 0 } : Room)) (fun argv U => argv = #[(.long u1), (.long u2)] ∧ Z.Warmed39 U.vm ∧ U.heap = h0) (fun _ _ _ _ _ => True) (fun _ U o U' => ∃ v L, o = .returned v ∧ own_Q4 Z u1 u2 h0 n0 v U'.heap L ∧ FrameEnd U o U' L ({ frames := 0, cells := 0, slots := 0, locals := 0 } : Room).cells ({ frames := 0, cells := 0, slots := 0, locals := 0 } : Room).slots) := by
  refine MetFree.of_bodySF (Jvm.Free.JP.mathPlain rfl (by decide +kernel)) hisR ?_
  intro p e s m args below meth c s₁ Bd hml0 hP hK
  obtain ⟨rfl, hZ, hh⟩ := hP
  have hx := Bd.exec
  have hby := Bd.bytes
  have hml : c.maxLocals = 4 := hml0
  have hown : s.vm.findClass "java/lang/Math" = some m.cls := findClass_of_methodNamed Bd.named
  have hnm := (name_of_methodNamed Bd.named Bd.method).1
  have X0 : Stand p l e ({ frames := 0, cells := 0, slots := 0, locals := 0 } : Room) s m #[(.long u1), (.long u2)] below meth c s₁ [] 0 0 := Stand.of_body Bd
  have e0 : s₁.heap = h0 := by rw [← hh, Bd.state]; rfl
  have N0 := Fr.nil n0
  have pre0 : ∀ t, Steps p.tables e below (s₁.setTop (mkF m 0 #[.val (.long u1), .second, .val (.long u2), .second] [])) t → Steps p.tables e below (s₁.setTop (entryFrame m #[(.long u1), (.long u2)] 4)) t := fun t k => castTop (own_ef4 m u1 u2) k
  have S1 : ∀ t, Steps p.tables e below (s₁.setTop (mkF m 3 #[.val (.long u1), .second, .val (.long u2), .second] [(.int (lcmpW u1 u2))])) t → Steps p.tables e below (s₁.setTop (entryFrame m #[(.long u1), (.long u2)] 4)) t := fun t kt => by
    refine pre0 t ?_
    show Steps p.tables e below (s₁.setTop (mkF m 0 #[.val (.long u1), .second, .val (.long u2), .second] [])) t
    refine XS.lloadN X0.here hx rfl (hb hby own_d4_0) rfl ?_
    show Steps p.tables e below (s₁.setTop (mkF m 1 #[.val (.long u1), .second, .val (.long u2), .second] [(.long u1)])) t
    refine XS.lloadN X0.here hx rfl (hb hby own_d4_1) rfl ?_
    show Steps p.tables e below (s₁.setTop (mkF m 2 #[.val (.long u1), .second, .val (.long u2), .second] [(.long u2), (.long u1)])) t
    refine XS.lcmp X0.here hx rfl (hb hby own_d4_2) rfl ?_
    exact kt
  by_cases hc3 : u2 < u1
  · skip
    have S2 : ∀ t, Steps p.tables e below (s₁.setTop (mkF m 11 #[.val (.long u1), .second, .val (.long u2), .second] [(.long u2)])) t → Steps p.tables e below (s₁.setTop (entryFrame m #[(.long u1), (.long u2)] 4)) t := fun t kt => by
      refine S1 t ?_
      show Steps p.tables e below (s₁.setTop (mkF m 3 #[.val (.long u1), .second, .val (.long u2), .second] [(.int (lcmpW u1 u2))])) t
      refine XS.ifYes X0.here hx rfl (pc0 := 3) (pc' := 10) rfl (hb hby own_d4_3) rfl (own_Llt hc3).2.2.1 (by decide) (by decide) ?_
      show Steps p.tables e below (s₁.setTop (mkF m 10 #[.val (.long u1), .second, .val (.long u2), .second] [])) t
      refine XS.lloadN X0.here hx rfl (hb hby own_d4_10) rfl ?_
      exact kt
    obtain ⟨fs, hr, hrun, hended, hW, hsame⟩ := X0.leave (v := some (.long u2)) (fun h => by rw [Bd.returns] at h; cases h)
    refine ⟨_, _, S2 _ ?_, hrun, hended, _, _, rfl, ?_, ⟨_, rfl⟩, hW, hsame.mono (by decide) (by decide)⟩
    · show Steps p.tables e below (s₁.setTop (mkF m 11 #[.val (.long u1), .second, .val (.long u2), .second] [(.long u2)])) _
      exact X0.lreturnOut hx Bd.returns (hb hby own_d4_11) hr
    · show own_Q4 Z u1 u2 h0 n0 _ s₁.heap _
      rw [e0]
      exact ⟨by simp [own_min, *], rfl, rfl⟩
  · skip
    have S3 : ∀ t, Steps p.tables e below (s₁.setTop (mkF m 11 #[.val (.long u1), .second, .val (.long u2), .second] [(.long u1)])) t → Steps p.tables e below (s₁.setTop (entryFrame m #[(.long u1), (.long u2)] 4)) t := fun t kt => by
      refine S1 t ?_
      show Steps p.tables e below (s₁.setTop (mkF m 3 #[.val (.long u1), .second, .val (.long u2), .second] [(.int (lcmpW u1 u2))])) t
      refine XS.ifNo X0.here hx rfl (hb hby own_d4_3) rfl (own_Lnl hc3).2.2.1 ?_
      show Steps p.tables e below (s₁.setTop (mkF m 6 #[.val (.long u1), .second, .val (.long u2), .second] [])) t
      refine XS.lloadN X0.here hx rfl (hb hby own_d4_6) rfl ?_
      show Steps p.tables e below (s₁.setTop (mkF m 7 #[.val (.long u1), .second, .val (.long u2), .second] [(.long u1)])) t
      refine XS.goto X0.here hx rfl (pc0 := 7) (pc' := 11) rfl (hb hby own_d4_7) (by decide) (by decide) ?_
      exact kt
    obtain ⟨fs, hr, hrun, hended, hW, hsame⟩ := X0.leave (v := some (.long u1)) (fun h => by rw [Bd.returns] at h; cases h)
    refine ⟨_, _, S3 _ ?_, hrun, hended, _, _, rfl, ?_, ⟨_, rfl⟩, hW, hsame.mono (by decide) (by decide)⟩
    · show Steps p.tables e below (s₁.setTop (mkF m 11 #[.val (.long u1), .second, .val (.long u2), .second] [(.long u1)])) _
      exact X0.lreturnOut hx Bd.returns (hb hby own_d4_11) hr
    · show own_Q4 Z u1 u2 h0 n0 _ s₁.heap _
      rw [e0]
      exact ⟨by simp [own_min, *], rfl, rfl⟩
theorem own_d5_0 : decode prog_28_method_5_code 0 = .ok (.aload_n 0, 1) := by decide +kernel
theorem own_d5_1 : decode prog_28_method_5_code 1 = .ok (.getfield 16, 3) := by decide +kernel
theorem own_d5_4 : decode prog_28_method_5_code 4 = .ok (.aload_n 1, 1) := by decide +kernel
theorem own_d5_5 : decode prog_28_method_5_code 5 = .ok (.getfield 22, 3) := by decide +kernel
theorem own_d5_8 : decode prog_28_method_5_code 8 = .ok (.dcmp .g, 1) := by decide +kernel
theorem own_d5_9 : decode prog_28_method_5_code 9 = .ok (.ifCond .gt 43, 3) := by decide +kernel
theorem own_d5_12 : decode prog_28_method_5_code 12 = .ok (.aload_n 1, 1) := by decide +kernel
theorem own_d5_13 : decode prog_28_method_5_code 13 = .ok (.getfield 16, 3) := by decide +kernel
theorem own_d5_16 : decode prog_28_method_5_code 16 = .ok (.aload_n 0, 1) := by decide +kernel
theorem own_d5_17 : decode prog_28_method_5_code 17 = .ok (.getfield 22, 3) := by decide +kernel
theorem own_d5_20 : decode prog_28_method_5_code 20 = .ok (.dcmp .g, 1) := by decide +kernel
theorem own_d5_21 : decode prog_28_method_5_code 21 = .ok (.ifCond .gt 31, 3) := by decide +kernel
theorem own_d5_24 : decode prog_28_method_5_code 24 = .ok (.aload_n 0, 1) := by decide +kernel
theorem own_d5_25 : decode prog_28_method_5_code 25 = .ok (.getfield 25, 3) := by decide +kernel
theorem own_d5_28 : decode prog_28_method_5_code 28 = .ok (.aload_n 1, 1) := by decide +kernel
theorem own_d5_29 : decode prog_28_method_5_code 29 = .ok (.getfield 28, 3) := by decide +kernel
theorem own_d5_32 : decode prog_28_method_5_code 32 = .ok (.dcmp .g, 1) := by decide +kernel
theorem own_d5_33 : decode prog_28_method_5_code 33 = .ok (.ifCond .gt 19, 3) := by decide +kernel
theorem own_d5_36 : decode prog_28_method_5_code 36 = .ok (.aload_n 1, 1) := by decide +kernel
theorem own_d5_37 : decode prog_28_method_5_code 37 = .ok (.getfield 25, 3) := by decide +kernel
theorem own_d5_40 : decode prog_28_method_5_code 40 = .ok (.aload_n 0, 1) := by decide +kernel
theorem own_d5_41 : decode prog_28_method_5_code 41 = .ok (.getfield 28, 3) := by decide +kernel
theorem own_d5_44 : decode prog_28_method_5_code 44 = .ok (.dcmp .g, 1) := by decide +kernel
theorem own_d5_45 : decode prog_28_method_5_code 45 = .ok (.ifCond .gt 7, 3) := by decide +kernel
theorem own_d5_48 : decode prog_28_method_5_code 48 = .ok (.iconst 1, 1) := by decide +kernel
theorem own_d5_49 : decode prog_28_method_5_code 49 = .ok (.goto 4, 3) := by decide +kernel
theorem own_d5_52 : decode prog_28_method_5_code 52 = .ok (.iconst 0, 1) := by decide +kernel
theorem own_d5_53 : decode prog_28_method_5_code 53 = .ok (.ireturn, 1) := by decide +kernel
theorem own_ef5 (m : MethodId) (x0 : Addr) (x1 : Addr) : entryFrame m #[(.ref x0), (.ref x1)] 2 = mkF m 0 #[.val (.ref x0), .val (.ref x1)] [] := by first | (simp [entryFrame, mkF, argsToLocals, Value.category]; done) | rfl
def own_Q5 (Z : State) (a : Addr) (b : Addr) (a1 : UInt64) (a2 : UInt64) (a3 : UInt64) (a4 : UInt64) (b1 : UInt64) (b2 : UInt64) (b3 : UInt64) (b4 : UInt64) (h0 : Heap) (n0 : Nat) (v : Option Value) (h : Heap) (L : List Loc) : Prop := v = some (.int (own_b (own_meets a1 a2 a3 a4 b1 b2 b3 b4))) ∧ L = [] ∧ h = h0
set_option maxHeartbeats 40000000 in
theorem own_rm5 (l : Launch) (Z : State) (a0 : Array Value) (hw : ∀ d ∈ tables_1, d.before a0 Z = true) (ws : List Jvm.Cond) (a : Addr) (b : Addr) (a1 : UInt64) (a2 : UInt64) (a3 : UInt64) (a4 : UInt64) (b1 : UInt64) (b2 : UInt64) (b3 : UInt64) (b4 : UInt64) (h0 : Heap) (n0 : Nat) (Z0 : n0 ≤ h0.size) (F_xMin_a : Fld Z h0 a "com/example/siteward/siteward/plane/Box" "xMin" "D" (.double a1)) (F_xMax_a : Fld Z h0 a "com/example/siteward/siteward/plane/Box" "xMax" "D" (.double a2)) (F_yMin_a : Fld Z h0 a "com/example/siteward/siteward/plane/Box" "yMin" "D" (.double a3)) (F_yMax_a : Fld Z h0 a "com/example/siteward/siteward/plane/Box" "yMax" "D" (.double a4)) (F_xMin_b : Fld Z h0 b "com/example/siteward/siteward/plane/Box" "xMin" "D" (.double b1)) (F_xMax_b : Fld Z h0 b "com/example/siteward/siteward/plane/Box" "xMax" "D" (.double b2)) (F_yMin_b : Fld Z h0 b "com/example/siteward/siteward/plane/Box" "yMin" "D" (.double b3)) (F_yMax_b : Fld Z h0 b "com/example/siteward/siteward/plane/Box" "yMax" "D" (.double b4)) :
    MetFree l (⟨"com/example/siteward/siteward/plane/Box", "meets", "(Lcom/example/siteward/siteward/plane/Box;)Z"⟩ : MethodName) (head1 (Jvm.Cond.code (⟨"com/example/siteward/siteward/plane/Box", "meets", "(Lcom/example/siteward/siteward/plane/Box;)Z"⟩ : MethodName) prog_28_method_5_code 2 (some .boolean) :: ws) ({ frames := 0, cells := 0, slots := 0, locals := 0 } : Room)) (fun argv U => argv = #[(.ref a), (.ref b)] ∧ Z.Warmed39 U.vm ∧ U.heap = h0) (fun _ _ _ _ _ => True) (fun _ U o U' => ∃ v L, o = .returned v ∧ own_Q5 Z a b a1 a2 a3 a4 b1 b2 b3 b4 h0 n0 v U'.heap L ∧ FrameEnd U o U' L ({ frames := 0, cells := 0, slots := 0, locals := 0 } : Room).cells ({ frames := 0, cells := 0, slots := 0, locals := 0 } : Room).slots) := by
  refine MetFree.of_bodySF (plainFor_of_name own_pn0) hisR ?_
  intro p e s m args below meth c s₁ Bd hml0 hP hK
  obtain ⟨rfl, hZ, hh⟩ := hP
  have hx := Bd.exec
  have hby := Bd.bytes
  have hml : c.maxLocals = 2 := hml0
  have hown : s.vm.findClass "com/example/siteward/siteward/plane/Box" = some m.cls := findClass_of_methodNamed Bd.named
  have hnm := (name_of_methodNamed Bd.named Bd.method).1
  have X0 : Stand p l e ({ frames := 0, cells := 0, slots := 0, locals := 0 } : Room) s m #[(.ref a), (.ref b)] below meth c s₁ [] 0 0 := Stand.of_body Bd
  have e0 : s₁.heap = h0 := by rw [← hh, Bd.state]; rfl
  have N0 := Fr.nil n0
  have pre0 : ∀ t, Steps p.tables e below (s₁.setTop (mkF m 0 #[.val (.ref a), .val (.ref b)] [])) t → Steps p.tables e below (s₁.setTop (entryFrame m #[(.ref a), (.ref b)] 2)) t := fun t k => castTop (own_ef5 m a b) k
  have S1 : ∀ t, Steps p.tables e below (s₁.setTop (mkF m 1 #[.val (.ref a), .val (.ref b)] [(.ref a)])) t → Steps p.tables e below (s₁.setTop (entryFrame m #[(.ref a), (.ref b)] 2)) t := fun t kt => by
    refine pre0 t ?_
    show Steps p.tables e below (s₁.setTop (mkF m 0 #[.val (.ref a), .val (.ref b)] [])) t
    refine XS.aloadN X0.here hx rfl (hb hby own_d5_0) rfl rfl ?_
    exact kt
  obtain ⟨T2, X2, e2, st2⟩ := getF X0 hx hZ hown (host := "") (Or.inl (hw _ (List.mem_of_getElem? (i := 10) rfl))) Via.refl e0 F_xMin_a (g := (mkF m 1 #[.val (.ref a), .val (.ref b)] [(.ref a)])) rfl rfl (hb hby own_d5_1)
  have S3 : ∀ t, Steps p.tables e below (T2.setTop (mkF m 4 #[.val (.ref a), .val (.ref b)] [(.double a1)])) t → Steps p.tables e below (s₁.setTop (entryFrame m #[(.ref a), (.ref b)] 2)) t := fun t kt => S1 t (st2 _ kt)
  have S4 : ∀ t, Steps p.tables e below (T2.setTop (mkF m 5 #[.val (.ref a), .val (.ref b)] [(.ref b), (.double a1)])) t → Steps p.tables e below (s₁.setTop (entryFrame m #[(.ref a), (.ref b)] 2)) t := fun t kt => by
    refine S3 t ?_
    show Steps p.tables e below (T2.setTop (mkF m 4 #[.val (.ref a), .val (.ref b)] [(.double a1)])) t
    refine XS.aloadN X2.here hx rfl (hb hby own_d5_4) rfl rfl ?_
    exact kt
  obtain ⟨T5, X5, e5, st5⟩ := getF X2 hx hZ hown (host := "") (Or.inl (hw _ (List.mem_of_getElem? (i := 12) rfl))) Via.refl e2 F_xMax_b (g := (mkF m 5 #[.val (.ref a), .val (.ref b)] [(.ref b), (.double a1)])) rfl rfl (hb hby own_d5_5)
  have S6 : ∀ t, Steps p.tables e below (T5.setTop (mkF m 8 #[.val (.ref a), .val (.ref b)] [(.double b2), (.double a1)])) t → Steps p.tables e below (s₁.setTop (entryFrame m #[(.ref a), (.ref b)] 2)) t := fun t kt => S4 t (st5 _ kt)
  have S7 : ∀ t, Steps p.tables e below (T5.setTop (mkF m 9 #[.val (.ref a), .val (.ref b)] [(.int (cmpValue (FP.dcmp a1 b2) .g))])) t → Steps p.tables e below (s₁.setTop (entryFrame m #[(.ref a), (.ref b)] 2)) t := fun t kt => by
    refine S6 t ?_
    show Steps p.tables e below (T5.setTop (mkF m 8 #[.val (.ref a), .val (.ref b)] [(.double b2), (.double a1)])) t
    jvm_step X5.here [X5.here.top, hx, (hb hby own_d5_8)]
    exact kt
  by_cases hc9 : (0 : Int32) < (cmpValue (FP.dcmp a1 b2) .g)
  · skip
    have S8 : ∀ t, Steps p.tables e below (T5.setTop (mkF m 53 #[.val (.ref a), .val (.ref b)] [(.int (0 : Int32))])) t → Steps p.tables e below (s₁.setTop (entryFrame m #[(.ref a), (.ref b)] 2)) t := fun t kt => by
      refine S7 t ?_
      show Steps p.tables e below (T5.setTop (mkF m 9 #[.val (.ref a), .val (.ref b)] [(.int (cmpValue (FP.dcmp a1 b2) .g))])) t
      refine XS.ifYes X5.here hx rfl (pc0 := 9) (pc' := 52) rfl (hb hby own_d5_9) rfl ((if0 _ _).trans (tlt hc9).2.2.1) (by decide) (by decide) ?_
      show Steps p.tables e below (T5.setTop (mkF m 52 #[.val (.ref a), .val (.ref b)] [])) t
      refine XS.iconst X5.here hx rfl (hb hby own_d5_52) ?_
      exact kt
    obtain ⟨fs, hr, hrun, hended, hW, hsame⟩ := X5.leave (v := some (.int (nar .boolean (0 : Int32)))) (fun h => by rw [Bd.returns] at h; cases h)
    refine ⟨_, _, S8 _ ?_, hrun, hended, _, _, rfl, ?_, ⟨_, rfl⟩, hW, hsame.mono (by decide) (by decide)⟩
    · show Steps p.tables e below (T5.setTop (mkF m 53 #[.val (.ref a), .val (.ref b)] [(.int (0 : Int32))])) _
      exact retN X5 hx (t := .boolean) Bd.returns (by simp) (hb hby own_d5_53) hr
    · show own_Q5 Z a b a1 a2 a3 a4 b1 b2 b3 b4 h0 n0 _ T5.heap _
      rw [e5]
      exact ⟨own_leafF (by simp only [own_meets, own_gt, decide_true, decide_false, not_true_eq_false, not_false_eq_true, and_true, true_and, and_false, false_and, and_self, or_true, true_or, or_false, false_or, or_self, if_true, if_false, Bool.not_true, Bool.not_false, Bool.and_true, Bool.true_and, Bool.and_false, Bool.false_and, *]), rfl, rfl⟩
  · skip
    have S9 : ∀ t, Steps p.tables e below (T5.setTop (mkF m 13 #[.val (.ref a), .val (.ref b)] [(.ref b)])) t → Steps p.tables e below (s₁.setTop (entryFrame m #[(.ref a), (.ref b)] 2)) t := fun t kt => by
      refine S7 t ?_
      show Steps p.tables e below (T5.setTop (mkF m 9 #[.val (.ref a), .val (.ref b)] [(.int (cmpValue (FP.dcmp a1 b2) .g))])) t
      refine XS.ifNo X5.here hx rfl (hb hby own_d5_9) rfl ((if0 _ _).trans (flt hc9).2.2.1) ?_
      show Steps p.tables e below (T5.setTop (mkF m 12 #[.val (.ref a), .val (.ref b)] [])) t
      refine XS.aloadN X5.here hx rfl (hb hby own_d5_12) rfl rfl ?_
      exact kt
    obtain ⟨T10, X10, e10, st10⟩ := getF X5 hx hZ hown (host := "") (Or.inl (hw _ (List.mem_of_getElem? (i := 10) rfl))) Via.refl e5 F_xMin_b (g := (mkF m 13 #[.val (.ref a), .val (.ref b)] [(.ref b)])) rfl rfl (hb hby own_d5_13)
    have S11 : ∀ t, Steps p.tables e below (T10.setTop (mkF m 16 #[.val (.ref a), .val (.ref b)] [(.double b1)])) t → Steps p.tables e below (s₁.setTop (entryFrame m #[(.ref a), (.ref b)] 2)) t := fun t kt => S9 t (st10 _ kt)
    have S12 : ∀ t, Steps p.tables e below (T10.setTop (mkF m 17 #[.val (.ref a), .val (.ref b)] [(.ref a), (.double b1)])) t → Steps p.tables e below (s₁.setTop (entryFrame m #[(.ref a), (.ref b)] 2)) t := fun t kt => by
      refine S11 t ?_
      show Steps p.tables e below (T10.setTop (mkF m 16 #[.val (.ref a), .val (.ref b)] [(.double b1)])) t
      refine XS.aloadN X10.here hx rfl (hb hby own_d5_16) rfl rfl ?_
      exact kt
    obtain ⟨T13, X13, e13, st13⟩ := getF X10 hx hZ hown (host := "") (Or.inl (hw _ (List.mem_of_getElem? (i := 12) rfl))) Via.refl e10 F_xMax_a (g := (mkF m 17 #[.val (.ref a), .val (.ref b)] [(.ref a), (.double b1)])) rfl rfl (hb hby own_d5_17)
    have S14 : ∀ t, Steps p.tables e below (T13.setTop (mkF m 20 #[.val (.ref a), .val (.ref b)] [(.double a2), (.double b1)])) t → Steps p.tables e below (s₁.setTop (entryFrame m #[(.ref a), (.ref b)] 2)) t := fun t kt => S12 t (st13 _ kt)
    have S15 : ∀ t, Steps p.tables e below (T13.setTop (mkF m 21 #[.val (.ref a), .val (.ref b)] [(.int (cmpValue (FP.dcmp b1 a2) .g))])) t → Steps p.tables e below (s₁.setTop (entryFrame m #[(.ref a), (.ref b)] 2)) t := fun t kt => by
      refine S14 t ?_
      show Steps p.tables e below (T13.setTop (mkF m 20 #[.val (.ref a), .val (.ref b)] [(.double a2), (.double b1)])) t
      jvm_step X13.here [X13.here.top, hx, (hb hby own_d5_20)]
      exact kt
    by_cases hc21 : (0 : Int32) < (cmpValue (FP.dcmp b1 a2) .g)
    · skip
      have S16 : ∀ t, Steps p.tables e below (T13.setTop (mkF m 53 #[.val (.ref a), .val (.ref b)] [(.int (0 : Int32))])) t → Steps p.tables e below (s₁.setTop (entryFrame m #[(.ref a), (.ref b)] 2)) t := fun t kt => by
        refine S15 t ?_
        show Steps p.tables e below (T13.setTop (mkF m 21 #[.val (.ref a), .val (.ref b)] [(.int (cmpValue (FP.dcmp b1 a2) .g))])) t
        refine XS.ifYes X13.here hx rfl (pc0 := 21) (pc' := 52) rfl (hb hby own_d5_21) rfl ((if0 _ _).trans (tlt hc21).2.2.1) (by decide) (by decide) ?_
        show Steps p.tables e below (T13.setTop (mkF m 52 #[.val (.ref a), .val (.ref b)] [])) t
        refine XS.iconst X13.here hx rfl (hb hby own_d5_52) ?_
        exact kt
      obtain ⟨fs, hr, hrun, hended, hW, hsame⟩ := X13.leave (v := some (.int (nar .boolean (0 : Int32)))) (fun h => by rw [Bd.returns] at h; cases h)
      refine ⟨_, _, S16 _ ?_, hrun, hended, _, _, rfl, ?_, ⟨_, rfl⟩, hW, hsame.mono (by decide) (by decide)⟩
      · show Steps p.tables e below (T13.setTop (mkF m 53 #[.val (.ref a), .val (.ref b)] [(.int (0 : Int32))])) _
        exact retN X13 hx (t := .boolean) Bd.returns (by simp) (hb hby own_d5_53) hr
      · show own_Q5 Z a b a1 a2 a3 a4 b1 b2 b3 b4 h0 n0 _ T13.heap _
        rw [e13]
        exact ⟨own_leafF (by simp only [own_meets, own_gt, decide_true, decide_false, not_true_eq_false, not_false_eq_true, and_true, true_and, and_false, false_and, and_self, or_true, true_or, or_false, false_or, or_self, if_true, if_false, Bool.not_true, Bool.not_false, Bool.and_true, Bool.true_and, Bool.and_false, Bool.false_and, *]), rfl, rfl⟩
    · skip
      have S17 : ∀ t, Steps p.tables e below (T13.setTop (mkF m 25 #[.val (.ref a), .val (.ref b)] [(.ref a)])) t → Steps p.tables e below (s₁.setTop (entryFrame m #[(.ref a), (.ref b)] 2)) t := fun t kt => by
        refine S15 t ?_
        show Steps p.tables e below (T13.setTop (mkF m 21 #[.val (.ref a), .val (.ref b)] [(.int (cmpValue (FP.dcmp b1 a2) .g))])) t
        refine XS.ifNo X13.here hx rfl (hb hby own_d5_21) rfl ((if0 _ _).trans (flt hc21).2.2.1) ?_
        show Steps p.tables e below (T13.setTop (mkF m 24 #[.val (.ref a), .val (.ref b)] [])) t
        refine XS.aloadN X13.here hx rfl (hb hby own_d5_24) rfl rfl ?_
        exact kt
      obtain ⟨T18, X18, e18, st18⟩ := getF X13 hx hZ hown (host := "") (Or.inl (hw _ (List.mem_of_getElem? (i := 14) rfl))) Via.refl e13 F_yMin_a (g := (mkF m 25 #[.val (.ref a), .val (.ref b)] [(.ref a)])) rfl rfl (hb hby own_d5_25)
      have S19 : ∀ t, Steps p.tables e below (T18.setTop (mkF m 28 #[.val (.ref a), .val (.ref b)] [(.double a3)])) t → Steps p.tables e below (s₁.setTop (entryFrame m #[(.ref a), (.ref b)] 2)) t := fun t kt => S17 t (st18 _ kt)
      have S20 : ∀ t, Steps p.tables e below (T18.setTop (mkF m 29 #[.val (.ref a), .val (.ref b)] [(.ref b), (.double a3)])) t → Steps p.tables e below (s₁.setTop (entryFrame m #[(.ref a), (.ref b)] 2)) t := fun t kt => by
        refine S19 t ?_
        show Steps p.tables e below (T18.setTop (mkF m 28 #[.val (.ref a), .val (.ref b)] [(.double a3)])) t
        refine XS.aloadN X18.here hx rfl (hb hby own_d5_28) rfl rfl ?_
        exact kt
      obtain ⟨T21, X21, e21, st21⟩ := getF X18 hx hZ hown (host := "") (Or.inl (hw _ (List.mem_of_getElem? (i := 16) rfl))) Via.refl e18 F_yMax_b (g := (mkF m 29 #[.val (.ref a), .val (.ref b)] [(.ref b), (.double a3)])) rfl rfl (hb hby own_d5_29)
      have S22 : ∀ t, Steps p.tables e below (T21.setTop (mkF m 32 #[.val (.ref a), .val (.ref b)] [(.double b4), (.double a3)])) t → Steps p.tables e below (s₁.setTop (entryFrame m #[(.ref a), (.ref b)] 2)) t := fun t kt => S20 t (st21 _ kt)
      have S23 : ∀ t, Steps p.tables e below (T21.setTop (mkF m 33 #[.val (.ref a), .val (.ref b)] [(.int (cmpValue (FP.dcmp a3 b4) .g))])) t → Steps p.tables e below (s₁.setTop (entryFrame m #[(.ref a), (.ref b)] 2)) t := fun t kt => by
        refine S22 t ?_
        show Steps p.tables e below (T21.setTop (mkF m 32 #[.val (.ref a), .val (.ref b)] [(.double b4), (.double a3)])) t
        jvm_step X21.here [X21.here.top, hx, (hb hby own_d5_32)]
        exact kt
      by_cases hc33 : (0 : Int32) < (cmpValue (FP.dcmp a3 b4) .g)
      · skip
        have S24 : ∀ t, Steps p.tables e below (T21.setTop (mkF m 53 #[.val (.ref a), .val (.ref b)] [(.int (0 : Int32))])) t → Steps p.tables e below (s₁.setTop (entryFrame m #[(.ref a), (.ref b)] 2)) t := fun t kt => by
          refine S23 t ?_
          show Steps p.tables e below (T21.setTop (mkF m 33 #[.val (.ref a), .val (.ref b)] [(.int (cmpValue (FP.dcmp a3 b4) .g))])) t
          refine XS.ifYes X21.here hx rfl (pc0 := 33) (pc' := 52) rfl (hb hby own_d5_33) rfl ((if0 _ _).trans (tlt hc33).2.2.1) (by decide) (by decide) ?_
          show Steps p.tables e below (T21.setTop (mkF m 52 #[.val (.ref a), .val (.ref b)] [])) t
          refine XS.iconst X21.here hx rfl (hb hby own_d5_52) ?_
          exact kt
        obtain ⟨fs, hr, hrun, hended, hW, hsame⟩ := X21.leave (v := some (.int (nar .boolean (0 : Int32)))) (fun h => by rw [Bd.returns] at h; cases h)
        refine ⟨_, _, S24 _ ?_, hrun, hended, _, _, rfl, ?_, ⟨_, rfl⟩, hW, hsame.mono (by decide) (by decide)⟩
        · show Steps p.tables e below (T21.setTop (mkF m 53 #[.val (.ref a), .val (.ref b)] [(.int (0 : Int32))])) _
          exact retN X21 hx (t := .boolean) Bd.returns (by simp) (hb hby own_d5_53) hr
        · show own_Q5 Z a b a1 a2 a3 a4 b1 b2 b3 b4 h0 n0 _ T21.heap _
          rw [e21]
          exact ⟨own_leafF (by simp only [own_meets, own_gt, decide_true, decide_false, not_true_eq_false, not_false_eq_true, and_true, true_and, and_false, false_and, and_self, or_true, true_or, or_false, false_or, or_self, if_true, if_false, Bool.not_true, Bool.not_false, Bool.and_true, Bool.true_and, Bool.and_false, Bool.false_and, *]), rfl, rfl⟩
      · skip
        have S25 : ∀ t, Steps p.tables e below (T21.setTop (mkF m 37 #[.val (.ref a), .val (.ref b)] [(.ref b)])) t → Steps p.tables e below (s₁.setTop (entryFrame m #[(.ref a), (.ref b)] 2)) t := fun t kt => by
          refine S23 t ?_
          show Steps p.tables e below (T21.setTop (mkF m 33 #[.val (.ref a), .val (.ref b)] [(.int (cmpValue (FP.dcmp a3 b4) .g))])) t
          refine XS.ifNo X21.here hx rfl (hb hby own_d5_33) rfl ((if0 _ _).trans (flt hc33).2.2.1) ?_
          show Steps p.tables e below (T21.setTop (mkF m 36 #[.val (.ref a), .val (.ref b)] [])) t
          refine XS.aloadN X21.here hx rfl (hb hby own_d5_36) rfl rfl ?_
          exact kt
        obtain ⟨T26, X26, e26, st26⟩ := getF X21 hx hZ hown (host := "") (Or.inl (hw _ (List.mem_of_getElem? (i := 14) rfl))) Via.refl e21 F_yMin_b (g := (mkF m 37 #[.val (.ref a), .val (.ref b)] [(.ref b)])) rfl rfl (hb hby own_d5_37)
        have S27 : ∀ t, Steps p.tables e below (T26.setTop (mkF m 40 #[.val (.ref a), .val (.ref b)] [(.double b3)])) t → Steps p.tables e below (s₁.setTop (entryFrame m #[(.ref a), (.ref b)] 2)) t := fun t kt => S25 t (st26 _ kt)
        have S28 : ∀ t, Steps p.tables e below (T26.setTop (mkF m 41 #[.val (.ref a), .val (.ref b)] [(.ref a), (.double b3)])) t → Steps p.tables e below (s₁.setTop (entryFrame m #[(.ref a), (.ref b)] 2)) t := fun t kt => by
          refine S27 t ?_
          show Steps p.tables e below (T26.setTop (mkF m 40 #[.val (.ref a), .val (.ref b)] [(.double b3)])) t
          refine XS.aloadN X26.here hx rfl (hb hby own_d5_40) rfl rfl ?_
          exact kt
        obtain ⟨T29, X29, e29, st29⟩ := getF X26 hx hZ hown (host := "") (Or.inl (hw _ (List.mem_of_getElem? (i := 16) rfl))) Via.refl e26 F_yMax_a (g := (mkF m 41 #[.val (.ref a), .val (.ref b)] [(.ref a), (.double b3)])) rfl rfl (hb hby own_d5_41)
        have S30 : ∀ t, Steps p.tables e below (T29.setTop (mkF m 44 #[.val (.ref a), .val (.ref b)] [(.double a4), (.double b3)])) t → Steps p.tables e below (s₁.setTop (entryFrame m #[(.ref a), (.ref b)] 2)) t := fun t kt => S28 t (st29 _ kt)
        have S31 : ∀ t, Steps p.tables e below (T29.setTop (mkF m 45 #[.val (.ref a), .val (.ref b)] [(.int (cmpValue (FP.dcmp b3 a4) .g))])) t → Steps p.tables e below (s₁.setTop (entryFrame m #[(.ref a), (.ref b)] 2)) t := fun t kt => by
          refine S30 t ?_
          show Steps p.tables e below (T29.setTop (mkF m 44 #[.val (.ref a), .val (.ref b)] [(.double a4), (.double b3)])) t
          jvm_step X29.here [X29.here.top, hx, (hb hby own_d5_44)]
          exact kt
        by_cases hc45 : (0 : Int32) < (cmpValue (FP.dcmp b3 a4) .g)
        · skip
          have S32 : ∀ t, Steps p.tables e below (T29.setTop (mkF m 53 #[.val (.ref a), .val (.ref b)] [(.int (0 : Int32))])) t → Steps p.tables e below (s₁.setTop (entryFrame m #[(.ref a), (.ref b)] 2)) t := fun t kt => by
            refine S31 t ?_
            show Steps p.tables e below (T29.setTop (mkF m 45 #[.val (.ref a), .val (.ref b)] [(.int (cmpValue (FP.dcmp b3 a4) .g))])) t
            refine XS.ifYes X29.here hx rfl (pc0 := 45) (pc' := 52) rfl (hb hby own_d5_45) rfl ((if0 _ _).trans (tlt hc45).2.2.1) (by decide) (by decide) ?_
            show Steps p.tables e below (T29.setTop (mkF m 52 #[.val (.ref a), .val (.ref b)] [])) t
            refine XS.iconst X29.here hx rfl (hb hby own_d5_52) ?_
            exact kt
          obtain ⟨fs, hr, hrun, hended, hW, hsame⟩ := X29.leave (v := some (.int (nar .boolean (0 : Int32)))) (fun h => by rw [Bd.returns] at h; cases h)
          refine ⟨_, _, S32 _ ?_, hrun, hended, _, _, rfl, ?_, ⟨_, rfl⟩, hW, hsame.mono (by decide) (by decide)⟩
          · show Steps p.tables e below (T29.setTop (mkF m 53 #[.val (.ref a), .val (.ref b)] [(.int (0 : Int32))])) _
            exact retN X29 hx (t := .boolean) Bd.returns (by simp) (hb hby own_d5_53) hr
          · show own_Q5 Z a b a1 a2 a3 a4 b1 b2 b3 b4 h0 n0 _ T29.heap _
            rw [e29]
            exact ⟨own_leafF (by simp only [own_meets, own_gt, decide_true, decide_false, not_true_eq_false, not_false_eq_true, and_true, true_and, and_false, false_and, and_self, or_true, true_or, or_false, false_or, or_self, if_true, if_false, Bool.not_true, Bool.not_false, Bool.and_true, Bool.true_and, Bool.and_false, Bool.false_and, *]), rfl, rfl⟩
        · skip
          have S33 : ∀ t, Steps p.tables e below (T29.setTop (mkF m 53 #[.val (.ref a), .val (.ref b)] [(.int (1 : Int32))])) t → Steps p.tables e below (s₁.setTop (entryFrame m #[(.ref a), (.ref b)] 2)) t := fun t kt => by
            refine S31 t ?_
            show Steps p.tables e below (T29.setTop (mkF m 45 #[.val (.ref a), .val (.ref b)] [(.int (cmpValue (FP.dcmp b3 a4) .g))])) t
            refine XS.ifNo X29.here hx rfl (hb hby own_d5_45) rfl ((if0 _ _).trans (flt hc45).2.2.1) ?_
            show Steps p.tables e below (T29.setTop (mkF m 48 #[.val (.ref a), .val (.ref b)] [])) t
            refine XS.iconst X29.here hx rfl (hb hby own_d5_48) ?_
            show Steps p.tables e below (T29.setTop (mkF m 49 #[.val (.ref a), .val (.ref b)] [(.int (1 : Int32))])) t
            refine XS.goto X29.here hx rfl (pc0 := 49) (pc' := 53) rfl (hb hby own_d5_49) (by decide) (by decide) ?_
            exact kt
          obtain ⟨fs, hr, hrun, hended, hW, hsame⟩ := X29.leave (v := some (.int (nar .boolean (1 : Int32)))) (fun h => by rw [Bd.returns] at h; cases h)
          refine ⟨_, _, S33 _ ?_, hrun, hended, _, _, rfl, ?_, ⟨_, rfl⟩, hW, hsame.mono (by decide) (by decide)⟩
          · show Steps p.tables e below (T29.setTop (mkF m 53 #[.val (.ref a), .val (.ref b)] [(.int (1 : Int32))])) _
            exact retN X29 hx (t := .boolean) Bd.returns (by simp) (hb hby own_d5_53) hr
          · show own_Q5 Z a b a1 a2 a3 a4 b1 b2 b3 b4 h0 n0 _ T29.heap _
            rw [e29]
            exact ⟨own_leafT (by simp only [own_meets, own_gt, decide_true, decide_false, not_true_eq_false, not_false_eq_true, and_true, true_and, and_false, false_and, and_self, or_true, true_or, or_false, false_or, or_self, if_true, if_false, Bool.not_true, Bool.not_false, Bool.and_true, Bool.true_and, Bool.and_false, Bool.false_and, *]), rfl, rfl⟩
theorem own_pd0 : parseMethodDescriptor "(DDDD)V" = some ⟨[.double, .double, .double, .double], none⟩ := by decide +kernel
theorem own_pd1 : parseMethodDescriptor "(JJ)J" = some ⟨[.long, .long], some .long⟩ := by decide +kernel
theorem own_pd2 : parseMethodDescriptor "(Lcom/example/siteward/siteward/plane/Box;)Z" = some ⟨[(.object "com/example/siteward/siteward/plane/Box")], some .boolean⟩ := by decide +kernel
theorem own_ef0 (m : MethodId) (x0 : Int32) (x1 : Int32) (x2 : Int32) (x3 : Int32) (x4 : Int64) (x5 : Int64) : entryFrame m #[(.int x0), (.int x1), (.int x2), (.int x3), (.long x4), (.long x5)] maxLocals = mkF m 0 #[.val (.int x0), .val (.int x1), .val (.int x2), .val (.int x3), .val (.long x4), .second, .val (.long x5), .second, .unset, .unset, .unset, .unset, .unset, .unset, .unset, .unset, .unset, .unset, .unset, .unset, .unset, .unset, .unset, .unset, .unset, .unset, .unset, .unset, .unset] [] := by first | (simp [entryFrame, mkF, argsToLocals, Value.category, maxLocals]; done) | rfl
def own_Q0 (Z : State) (ax : Int32) (aw : Int32) (ay : Int32) (ah : Int32) (bxp : Int64) (byp : Int64) (h0 : Heap) (n0 : Nat) (v : Option Value) (h : Heap) (L : List Loc) : Prop := v = some (.int (1 : Int32)) ∧ Fr n0 L
theorem own_pn1 : plainName "com/example/siteward/siteward/plane/BoxMeetsPinLaw" = true := by first | (simp [plainName, overriddenIn]; done) | decide +kernel
set_option maxHeartbeats 40000000 in
theorem own_rm0 (l : Launch) (Z : State) (a0 : Array Value) (hw : ∀ d ∈ tables_1, d.before a0 Z = true) (ws : List Jvm.Cond) (ax : Int32) (aw : Int32) (ay : Int32) (ah : Int32) (bxp : Int64) (byp : Int64) (h0 : Heap) (n0 : Nat) (Z0 : n0 ≤ h0.size) :
    MetFree l x (head1 (Jvm.Cond.code x code maxLocals ret :: ws) room_1) (fun argv U => argv = #[(.int ax), (.int aw), (.int ay), (.int ah), (.long bxp), (.long byp)] ∧ Z.Warmed39 U.vm ∧ U.heap = h0) (fun _ _ _ _ _ => True) (fun _ U o U' => ∃ v L, o = .returned v ∧ own_Q0 Z ax aw ay ah bxp byp h0 n0 v U'.heap L ∧ FrameEnd U o U' L room_1.cells room_1.slots) := by
  refine MetFree.of_bodySF (plainFor_of_name own_pn1) hisR ?_
  intro p e s m args below meth c s₁ Bd hml0 hP hK
  obtain ⟨rfl, hZ, hh⟩ := hP
  have hx := Bd.exec
  have hby := Bd.bytes
  have hml : c.maxLocals = 29 := hml0
  have hown : s.vm.findClass "com/example/siteward/siteward/plane/BoxMeetsPinLaw" = some m.cls := findClass_of_methodNamed Bd.named
  have hnm := (name_of_methodNamed Bd.named Bd.method).1
  have X0 : Stand p l e room_1 s m #[(.int ax), (.int aw), (.int ay), (.int ah), (.long bxp), (.long byp)] below meth c s₁ [] 0 0 := Stand.of_body Bd
  have e0 : s₁.heap = h0 := by rw [← hh, Bd.state]; rfl
  have N0 := Fr.nil n0
  have pre0 : ∀ t, Steps p.tables e below (s₁.setTop (mkF m 0 #[.val (.int ax), .val (.int aw), .val (.int ay), .val (.int ah), .val (.long bxp), .second, .val (.long byp), .second, .unset, .unset, .unset, .unset, .unset, .unset, .unset, .unset, .unset, .unset, .unset, .unset, .unset, .unset, .unset, .unset, .unset, .unset, .unset, .unset, .unset] [])) t → Steps p.tables e below (s₁.setTop (entryFrame m #[(.int ax), (.int aw), (.int ay), (.int ah), (.long bxp), (.long byp)] maxLocals)) t := fun t k => castTop (own_ef0 m ax aw ay ah bxp byp) k
  obtain ⟨T1, p1, p2, p3, p4, q1, q2, q3, q4, X1, e1, hr0, S1⟩ : ∃ (T' : State) (p1 : Int64) (p2 : Int64) (p3 : Int64) (p4 : Int64) (q1 : Int64) (q2 : Int64) (q3 : Int64) (q4 : Int64), own_like X0 T' ∧ T'.heap = h0 ∧ (own_rng p1 p2 ∧ own_rng p3 p4 ∧ own_rng q1 q2 ∧ own_rng q3 q4) ∧ (∀ t, Steps p.tables e below (T'.setTop (mkF m 70 #[.val (.int ax), .val (.int aw), .val (.int ay), .val (.int ah), .val (.long bxp), .second, .val (.long byp), .second, .val (.long p1), .second, .val (.long p2), .second, .val (.long p3), .second, .val (.long p4), .second, .val (.long q1), .second, .val (.long q2), .second, .val (.long q3), .second, .val (.long q4), .second, .unset, .unset, .unset, .unset, .unset] [])) t → Steps p.tables e below (s₁.setTop (entryFrame m #[(.int ax), (.int aw), (.int ay), (.int ah), (.long bxp), (.long byp)] maxLocals)) t) := by
    have S2 : ∀ t, Steps p.tables e below (s₁.setTop (mkF m 70 #[.val (.int ax), .val (.int aw), .val (.int ay), .val (.int ah), .val (.long bxp), .second, .val (.long byp), .second, .val (.long (ax.toInt64)), .second, .val (.long ((ax.toInt64) + ((aw &&& (2147483647 : Int32)).toInt64))), .second, .val (.long (ay.toInt64)), .second, .val (.long ((ay.toInt64) + ((ah &&& (2147483647 : Int32)).toInt64))), .second, .val (.long ((bxp.toInt32).toInt64)), .second, .val (.long (((bxp.toInt32).toInt64) + (((((bxp.toUInt64 >>> ((32 : Int32) &&& 0x3f).toInt64.toUInt64).toInt64).toInt32) &&& (2147483647 : Int32)).toInt64))), .second, .val (.long ((byp.toInt32).toInt64)), .second, .val (.long (((byp.toInt32).toInt64) + (((((byp.toUInt64 >>> ((32 : Int32) &&& 0x3f).toInt64.toUInt64).toInt64).toInt32) &&& (2147483647 : Int32)).toInt64))), .second, .unset, .unset, .unset, .unset, .unset] [])) t → Steps p.tables e below (s₁.setTop (entryFrame m #[(.int ax), (.int aw), (.int ay), (.int ah), (.long bxp), (.long byp)] maxLocals)) t := fun t kt => by
      refine pre0 t ?_
      show Steps p.tables e below (s₁.setTop (mkF m 0 #[.val (.int ax), .val (.int aw), .val (.int ay), .val (.int ah), .val (.long bxp), .second, .val (.long byp), .second, .unset, .unset, .unset, .unset, .unset, .unset, .unset, .unset, .unset, .unset, .unset, .unset, .unset, .unset, .unset, .unset, .unset, .unset, .unset, .unset, .unset] [])) t
      refine XS.iloadN X0.here hx rfl (hb hby at_0) rfl ?_
      show Steps p.tables e below (s₁.setTop (mkF m 1 #[.val (.int ax), .val (.int aw), .val (.int ay), .val (.int ah), .val (.long bxp), .second, .val (.long byp), .second, .unset, .unset, .unset, .unset, .unset, .unset, .unset, .unset, .unset, .unset, .unset, .unset, .unset, .unset, .unset, .unset, .unset, .unset, .unset, .unset, .unset] [(.int ax)])) t
      refine XS.i2l X0.here hx rfl (hb hby at_1) rfl ?_
      show Steps p.tables e below (s₁.setTop (mkF m 2 #[.val (.int ax), .val (.int aw), .val (.int ay), .val (.int ah), .val (.long bxp), .second, .val (.long byp), .second, .unset, .unset, .unset, .unset, .unset, .unset, .unset, .unset, .unset, .unset, .unset, .unset, .unset, .unset, .unset, .unset, .unset, .unset, .unset, .unset, .unset] [(.long (ax.toInt64))])) t
      refine XS.lstore X0.here hx rfl (hb hby at_2) rfl (l' := #[.val (.int ax), .val (.int aw), .val (.int ay), .val (.int ah), .val (.long bxp), .second, .val (.long byp), .second, .val (.long (ax.toInt64)), .second, .unset, .unset, .unset, .unset, .unset, .unset, .unset, .unset, .unset, .unset, .unset, .unset, .unset, .unset, .unset, .unset, .unset, .unset, .unset]) rfl ?_
      show Steps p.tables e below (s₁.setTop (mkF m 4 #[.val (.int ax), .val (.int aw), .val (.int ay), .val (.int ah), .val (.long bxp), .second, .val (.long byp), .second, .val (.long (ax.toInt64)), .second, .unset, .unset, .unset, .unset, .unset, .unset, .unset, .unset, .unset, .unset, .unset, .unset, .unset, .unset, .unset, .unset, .unset, .unset, .unset] [])) t
      refine XS.lload X0.here hx rfl (hb hby at_4) rfl ?_
      show Steps p.tables e below (s₁.setTop (mkF m 6 #[.val (.int ax), .val (.int aw), .val (.int ay), .val (.int ah), .val (.long bxp), .second, .val (.long byp), .second, .val (.long (ax.toInt64)), .second, .unset, .unset, .unset, .unset, .unset, .unset, .unset, .unset, .unset, .unset, .unset, .unset, .unset, .unset, .unset, .unset, .unset, .unset, .unset] [(.long (ax.toInt64))])) t
      refine XS.iloadN X0.here hx rfl (hb hby at_6) rfl ?_
      show Steps p.tables e below (s₁.setTop (mkF m 7 #[.val (.int ax), .val (.int aw), .val (.int ay), .val (.int ah), .val (.long bxp), .second, .val (.long byp), .second, .val (.long (ax.toInt64)), .second, .unset, .unset, .unset, .unset, .unset, .unset, .unset, .unset, .unset, .unset, .unset, .unset, .unset, .unset, .unset, .unset, .unset, .unset, .unset] [(.int aw), (.long (ax.toInt64))])) t
      refine X0.ldcInt hx hown (mvT hZ (hw _ (List.mem_of_getElem? (i := 0) rfl))) (g := (mkF m 7 #[.val (.int ax), .val (.int aw), .val (.int ay), .val (.int ah), .val (.long bxp), .second, .val (.long byp), .second, .val (.long (ax.toInt64)), .second, .unset, .unset, .unset, .unset, .unset, .unset, .unset, .unset, .unset, .unset, .unset, .unset, .unset, .unset, .unset, .unset, .unset, .unset, .unset] [(.int aw), (.long (ax.toInt64))])) rfl (hb hby at_7) _ ?_
      show Steps p.tables e below (s₁.setTop (mkF m 9 #[.val (.int ax), .val (.int aw), .val (.int ay), .val (.int ah), .val (.long bxp), .second, .val (.long byp), .second, .val (.long (ax.toInt64)), .second, .unset, .unset, .unset, .unset, .unset, .unset, .unset, .unset, .unset, .unset, .unset, .unset, .unset, .unset, .unset, .unset, .unset, .unset, .unset] [(.int (2147483647 : Int32)), (.int aw), (.long (ax.toInt64))])) t
      refine XS.iand X0.here hx rfl (hb hby at_9) rfl ?_
      show Steps p.tables e below (s₁.setTop (mkF m 10 #[.val (.int ax), .val (.int aw), .val (.int ay), .val (.int ah), .val (.long bxp), .second, .val (.long byp), .second, .val (.long (ax.toInt64)), .second, .unset, .unset, .unset, .unset, .unset, .unset, .unset, .unset, .unset, .unset, .unset, .unset, .unset, .unset, .unset, .unset, .unset, .unset, .unset] [(.int (aw &&& (2147483647 : Int32))), (.long (ax.toInt64))])) t
      refine XS.i2l X0.here hx rfl (hb hby at_10) rfl ?_
      show Steps p.tables e below (s₁.setTop (mkF m 11 #[.val (.int ax), .val (.int aw), .val (.int ay), .val (.int ah), .val (.long bxp), .second, .val (.long byp), .second, .val (.long (ax.toInt64)), .second, .unset, .unset, .unset, .unset, .unset, .unset, .unset, .unset, .unset, .unset, .unset, .unset, .unset, .unset, .unset, .unset, .unset, .unset, .unset] [(.long ((aw &&& (2147483647 : Int32)).toInt64)), (.long (ax.toInt64))])) t
      refine XS.ladd X0.here hx rfl (hb hby at_11) rfl ?_
      show Steps p.tables e below (s₁.setTop (mkF m 12 #[.val (.int ax), .val (.int aw), .val (.int ay), .val (.int ah), .val (.long bxp), .second, .val (.long byp), .second, .val (.long (ax.toInt64)), .second, .unset, .unset, .unset, .unset, .unset, .unset, .unset, .unset, .unset, .unset, .unset, .unset, .unset, .unset, .unset, .unset, .unset, .unset, .unset] [(.long ((ax.toInt64) + ((aw &&& (2147483647 : Int32)).toInt64)))])) t
      refine XS.lstore X0.here hx rfl (hb hby at_12) rfl (l' := #[.val (.int ax), .val (.int aw), .val (.int ay), .val (.int ah), .val (.long bxp), .second, .val (.long byp), .second, .val (.long (ax.toInt64)), .second, .val (.long ((ax.toInt64) + ((aw &&& (2147483647 : Int32)).toInt64))), .second, .unset, .unset, .unset, .unset, .unset, .unset, .unset, .unset, .unset, .unset, .unset, .unset, .unset, .unset, .unset, .unset, .unset]) rfl ?_
      show Steps p.tables e below (s₁.setTop (mkF m 14 #[.val (.int ax), .val (.int aw), .val (.int ay), .val (.int ah), .val (.long bxp), .second, .val (.long byp), .second, .val (.long (ax.toInt64)), .second, .val (.long ((ax.toInt64) + ((aw &&& (2147483647 : Int32)).toInt64))), .second, .unset, .unset, .unset, .unset, .unset, .unset, .unset, .unset, .unset, .unset, .unset, .unset, .unset, .unset, .unset, .unset, .unset] [])) t
      refine XS.iloadN X0.here hx rfl (hb hby at_14) rfl ?_
      show Steps p.tables e below (s₁.setTop (mkF m 15 #[.val (.int ax), .val (.int aw), .val (.int ay), .val (.int ah), .val (.long bxp), .second, .val (.long byp), .second, .val (.long (ax.toInt64)), .second, .val (.long ((ax.toInt64) + ((aw &&& (2147483647 : Int32)).toInt64))), .second, .unset, .unset, .unset, .unset, .unset, .unset, .unset, .unset, .unset, .unset, .unset, .unset, .unset, .unset, .unset, .unset, .unset] [(.int ay)])) t
      refine XS.i2l X0.here hx rfl (hb hby at_15) rfl ?_
      show Steps p.tables e below (s₁.setTop (mkF m 16 #[.val (.int ax), .val (.int aw), .val (.int ay), .val (.int ah), .val (.long bxp), .second, .val (.long byp), .second, .val (.long (ax.toInt64)), .second, .val (.long ((ax.toInt64) + ((aw &&& (2147483647 : Int32)).toInt64))), .second, .unset, .unset, .unset, .unset, .unset, .unset, .unset, .unset, .unset, .unset, .unset, .unset, .unset, .unset, .unset, .unset, .unset] [(.long (ay.toInt64))])) t
      refine XS.lstore X0.here hx rfl (hb hby at_16) rfl (l' := #[.val (.int ax), .val (.int aw), .val (.int ay), .val (.int ah), .val (.long bxp), .second, .val (.long byp), .second, .val (.long (ax.toInt64)), .second, .val (.long ((ax.toInt64) + ((aw &&& (2147483647 : Int32)).toInt64))), .second, .val (.long (ay.toInt64)), .second, .unset, .unset, .unset, .unset, .unset, .unset, .unset, .unset, .unset, .unset, .unset, .unset, .unset, .unset, .unset]) rfl ?_
      show Steps p.tables e below (s₁.setTop (mkF m 18 #[.val (.int ax), .val (.int aw), .val (.int ay), .val (.int ah), .val (.long bxp), .second, .val (.long byp), .second, .val (.long (ax.toInt64)), .second, .val (.long ((ax.toInt64) + ((aw &&& (2147483647 : Int32)).toInt64))), .second, .val (.long (ay.toInt64)), .second, .unset, .unset, .unset, .unset, .unset, .unset, .unset, .unset, .unset, .unset, .unset, .unset, .unset, .unset, .unset] [])) t
      refine XS.lload X0.here hx rfl (hb hby at_18) rfl ?_
      show Steps p.tables e below (s₁.setTop (mkF m 20 #[.val (.int ax), .val (.int aw), .val (.int ay), .val (.int ah), .val (.long bxp), .second, .val (.long byp), .second, .val (.long (ax.toInt64)), .second, .val (.long ((ax.toInt64) + ((aw &&& (2147483647 : Int32)).toInt64))), .second, .val (.long (ay.toInt64)), .second, .unset, .unset, .unset, .unset, .unset, .unset, .unset, .unset, .unset, .unset, .unset, .unset, .unset, .unset, .unset] [(.long (ay.toInt64))])) t
      refine XS.iloadN X0.here hx rfl (hb hby at_20) rfl ?_
      show Steps p.tables e below (s₁.setTop (mkF m 21 #[.val (.int ax), .val (.int aw), .val (.int ay), .val (.int ah), .val (.long bxp), .second, .val (.long byp), .second, .val (.long (ax.toInt64)), .second, .val (.long ((ax.toInt64) + ((aw &&& (2147483647 : Int32)).toInt64))), .second, .val (.long (ay.toInt64)), .second, .unset, .unset, .unset, .unset, .unset, .unset, .unset, .unset, .unset, .unset, .unset, .unset, .unset, .unset, .unset] [(.int ah), (.long (ay.toInt64))])) t
      refine X0.ldcInt hx hown (mvT hZ (hw _ (List.mem_of_getElem? (i := 0) rfl))) (g := (mkF m 21 #[.val (.int ax), .val (.int aw), .val (.int ay), .val (.int ah), .val (.long bxp), .second, .val (.long byp), .second, .val (.long (ax.toInt64)), .second, .val (.long ((ax.toInt64) + ((aw &&& (2147483647 : Int32)).toInt64))), .second, .val (.long (ay.toInt64)), .second, .unset, .unset, .unset, .unset, .unset, .unset, .unset, .unset, .unset, .unset, .unset, .unset, .unset, .unset, .unset] [(.int ah), (.long (ay.toInt64))])) rfl (hb hby at_21) _ ?_
      show Steps p.tables e below (s₁.setTop (mkF m 23 #[.val (.int ax), .val (.int aw), .val (.int ay), .val (.int ah), .val (.long bxp), .second, .val (.long byp), .second, .val (.long (ax.toInt64)), .second, .val (.long ((ax.toInt64) + ((aw &&& (2147483647 : Int32)).toInt64))), .second, .val (.long (ay.toInt64)), .second, .unset, .unset, .unset, .unset, .unset, .unset, .unset, .unset, .unset, .unset, .unset, .unset, .unset, .unset, .unset] [(.int (2147483647 : Int32)), (.int ah), (.long (ay.toInt64))])) t
      refine XS.iand X0.here hx rfl (hb hby at_23) rfl ?_
      show Steps p.tables e below (s₁.setTop (mkF m 24 #[.val (.int ax), .val (.int aw), .val (.int ay), .val (.int ah), .val (.long bxp), .second, .val (.long byp), .second, .val (.long (ax.toInt64)), .second, .val (.long ((ax.toInt64) + ((aw &&& (2147483647 : Int32)).toInt64))), .second, .val (.long (ay.toInt64)), .second, .unset, .unset, .unset, .unset, .unset, .unset, .unset, .unset, .unset, .unset, .unset, .unset, .unset, .unset, .unset] [(.int (ah &&& (2147483647 : Int32))), (.long (ay.toInt64))])) t
      refine XS.i2l X0.here hx rfl (hb hby at_24) rfl ?_
      show Steps p.tables e below (s₁.setTop (mkF m 25 #[.val (.int ax), .val (.int aw), .val (.int ay), .val (.int ah), .val (.long bxp), .second, .val (.long byp), .second, .val (.long (ax.toInt64)), .second, .val (.long ((ax.toInt64) + ((aw &&& (2147483647 : Int32)).toInt64))), .second, .val (.long (ay.toInt64)), .second, .unset, .unset, .unset, .unset, .unset, .unset, .unset, .unset, .unset, .unset, .unset, .unset, .unset, .unset, .unset] [(.long ((ah &&& (2147483647 : Int32)).toInt64)), (.long (ay.toInt64))])) t
      refine XS.ladd X0.here hx rfl (hb hby at_25) rfl ?_
      show Steps p.tables e below (s₁.setTop (mkF m 26 #[.val (.int ax), .val (.int aw), .val (.int ay), .val (.int ah), .val (.long bxp), .second, .val (.long byp), .second, .val (.long (ax.toInt64)), .second, .val (.long ((ax.toInt64) + ((aw &&& (2147483647 : Int32)).toInt64))), .second, .val (.long (ay.toInt64)), .second, .unset, .unset, .unset, .unset, .unset, .unset, .unset, .unset, .unset, .unset, .unset, .unset, .unset, .unset, .unset] [(.long ((ay.toInt64) + ((ah &&& (2147483647 : Int32)).toInt64)))])) t
      refine XS.lstore X0.here hx rfl (hb hby at_26) rfl (l' := #[.val (.int ax), .val (.int aw), .val (.int ay), .val (.int ah), .val (.long bxp), .second, .val (.long byp), .second, .val (.long (ax.toInt64)), .second, .val (.long ((ax.toInt64) + ((aw &&& (2147483647 : Int32)).toInt64))), .second, .val (.long (ay.toInt64)), .second, .val (.long ((ay.toInt64) + ((ah &&& (2147483647 : Int32)).toInt64))), .second, .unset, .unset, .unset, .unset, .unset, .unset, .unset, .unset, .unset, .unset, .unset, .unset, .unset]) rfl ?_
      show Steps p.tables e below (s₁.setTop (mkF m 28 #[.val (.int ax), .val (.int aw), .val (.int ay), .val (.int ah), .val (.long bxp), .second, .val (.long byp), .second, .val (.long (ax.toInt64)), .second, .val (.long ((ax.toInt64) + ((aw &&& (2147483647 : Int32)).toInt64))), .second, .val (.long (ay.toInt64)), .second, .val (.long ((ay.toInt64) + ((ah &&& (2147483647 : Int32)).toInt64))), .second, .unset, .unset, .unset, .unset, .unset, .unset, .unset, .unset, .unset, .unset, .unset, .unset, .unset] [])) t
      refine XS.lload X0.here hx rfl (hb hby at_28) rfl ?_
      show Steps p.tables e below (s₁.setTop (mkF m 30 #[.val (.int ax), .val (.int aw), .val (.int ay), .val (.int ah), .val (.long bxp), .second, .val (.long byp), .second, .val (.long (ax.toInt64)), .second, .val (.long ((ax.toInt64) + ((aw &&& (2147483647 : Int32)).toInt64))), .second, .val (.long (ay.toInt64)), .second, .val (.long ((ay.toInt64) + ((ah &&& (2147483647 : Int32)).toInt64))), .second, .unset, .unset, .unset, .unset, .unset, .unset, .unset, .unset, .unset, .unset, .unset, .unset, .unset] [(.long bxp)])) t
      refine XS.l2i X0.here hx rfl (hb hby at_30) rfl ?_
      show Steps p.tables e below (s₁.setTop (mkF m 31 #[.val (.int ax), .val (.int aw), .val (.int ay), .val (.int ah), .val (.long bxp), .second, .val (.long byp), .second, .val (.long (ax.toInt64)), .second, .val (.long ((ax.toInt64) + ((aw &&& (2147483647 : Int32)).toInt64))), .second, .val (.long (ay.toInt64)), .second, .val (.long ((ay.toInt64) + ((ah &&& (2147483647 : Int32)).toInt64))), .second, .unset, .unset, .unset, .unset, .unset, .unset, .unset, .unset, .unset, .unset, .unset, .unset, .unset] [(.int (bxp.toInt32))])) t
      refine XS.i2l X0.here hx rfl (hb hby at_31) rfl ?_
      show Steps p.tables e below (s₁.setTop (mkF m 32 #[.val (.int ax), .val (.int aw), .val (.int ay), .val (.int ah), .val (.long bxp), .second, .val (.long byp), .second, .val (.long (ax.toInt64)), .second, .val (.long ((ax.toInt64) + ((aw &&& (2147483647 : Int32)).toInt64))), .second, .val (.long (ay.toInt64)), .second, .val (.long ((ay.toInt64) + ((ah &&& (2147483647 : Int32)).toInt64))), .second, .unset, .unset, .unset, .unset, .unset, .unset, .unset, .unset, .unset, .unset, .unset, .unset, .unset] [(.long ((bxp.toInt32).toInt64))])) t
      refine XS.lstore X0.here hx rfl (hb hby at_32) rfl (l' := #[.val (.int ax), .val (.int aw), .val (.int ay), .val (.int ah), .val (.long bxp), .second, .val (.long byp), .second, .val (.long (ax.toInt64)), .second, .val (.long ((ax.toInt64) + ((aw &&& (2147483647 : Int32)).toInt64))), .second, .val (.long (ay.toInt64)), .second, .val (.long ((ay.toInt64) + ((ah &&& (2147483647 : Int32)).toInt64))), .second, .val (.long ((bxp.toInt32).toInt64)), .second, .unset, .unset, .unset, .unset, .unset, .unset, .unset, .unset, .unset, .unset, .unset]) rfl ?_
      show Steps p.tables e below (s₁.setTop (mkF m 34 #[.val (.int ax), .val (.int aw), .val (.int ay), .val (.int ah), .val (.long bxp), .second, .val (.long byp), .second, .val (.long (ax.toInt64)), .second, .val (.long ((ax.toInt64) + ((aw &&& (2147483647 : Int32)).toInt64))), .second, .val (.long (ay.toInt64)), .second, .val (.long ((ay.toInt64) + ((ah &&& (2147483647 : Int32)).toInt64))), .second, .val (.long ((bxp.toInt32).toInt64)), .second, .unset, .unset, .unset, .unset, .unset, .unset, .unset, .unset, .unset, .unset, .unset] [])) t
      refine XS.lload X0.here hx rfl (hb hby at_34) rfl ?_
      show Steps p.tables e below (s₁.setTop (mkF m 36 #[.val (.int ax), .val (.int aw), .val (.int ay), .val (.int ah), .val (.long bxp), .second, .val (.long byp), .second, .val (.long (ax.toInt64)), .second, .val (.long ((ax.toInt64) + ((aw &&& (2147483647 : Int32)).toInt64))), .second, .val (.long (ay.toInt64)), .second, .val (.long ((ay.toInt64) + ((ah &&& (2147483647 : Int32)).toInt64))), .second, .val (.long ((bxp.toInt32).toInt64)), .second, .unset, .unset, .unset, .unset, .unset, .unset, .unset, .unset, .unset, .unset, .unset] [(.long ((bxp.toInt32).toInt64))])) t
      refine XS.lload X0.here hx rfl (hb hby at_36) rfl ?_
      show Steps p.tables e below (s₁.setTop (mkF m 38 #[.val (.int ax), .val (.int aw), .val (.int ay), .val (.int ah), .val (.long bxp), .second, .val (.long byp), .second, .val (.long (ax.toInt64)), .second, .val (.long ((ax.toInt64) + ((aw &&& (2147483647 : Int32)).toInt64))), .second, .val (.long (ay.toInt64)), .second, .val (.long ((ay.toInt64) + ((ah &&& (2147483647 : Int32)).toInt64))), .second, .val (.long ((bxp.toInt32).toInt64)), .second, .unset, .unset, .unset, .unset, .unset, .unset, .unset, .unset, .unset, .unset, .unset] [(.long bxp), (.long ((bxp.toInt32).toInt64))])) t
      refine XS.bipush X0.here hx rfl (hb hby at_38) ?_
      show Steps p.tables e below (s₁.setTop (mkF m 40 #[.val (.int ax), .val (.int aw), .val (.int ay), .val (.int ah), .val (.long bxp), .second, .val (.long byp), .second, .val (.long (ax.toInt64)), .second, .val (.long ((ax.toInt64) + ((aw &&& (2147483647 : Int32)).toInt64))), .second, .val (.long (ay.toInt64)), .second, .val (.long ((ay.toInt64) + ((ah &&& (2147483647 : Int32)).toInt64))), .second, .val (.long ((bxp.toInt32).toInt64)), .second, .unset, .unset, .unset, .unset, .unset, .unset, .unset, .unset, .unset, .unset, .unset] [(.int (32 : Int32)), (.long bxp), (.long ((bxp.toInt32).toInt64))])) t
      refine XS.lushr X0.here hx rfl (hb hby at_40) rfl ?_
      show Steps p.tables e below (s₁.setTop (mkF m 41 #[.val (.int ax), .val (.int aw), .val (.int ay), .val (.int ah), .val (.long bxp), .second, .val (.long byp), .second, .val (.long (ax.toInt64)), .second, .val (.long ((ax.toInt64) + ((aw &&& (2147483647 : Int32)).toInt64))), .second, .val (.long (ay.toInt64)), .second, .val (.long ((ay.toInt64) + ((ah &&& (2147483647 : Int32)).toInt64))), .second, .val (.long ((bxp.toInt32).toInt64)), .second, .unset, .unset, .unset, .unset, .unset, .unset, .unset, .unset, .unset, .unset, .unset] [(.long ((bxp.toUInt64 >>> ((32 : Int32) &&& 0x3f).toInt64.toUInt64).toInt64)), (.long ((bxp.toInt32).toInt64))])) t
      refine XS.l2i X0.here hx rfl (hb hby at_41) rfl ?_
      show Steps p.tables e below (s₁.setTop (mkF m 42 #[.val (.int ax), .val (.int aw), .val (.int ay), .val (.int ah), .val (.long bxp), .second, .val (.long byp), .second, .val (.long (ax.toInt64)), .second, .val (.long ((ax.toInt64) + ((aw &&& (2147483647 : Int32)).toInt64))), .second, .val (.long (ay.toInt64)), .second, .val (.long ((ay.toInt64) + ((ah &&& (2147483647 : Int32)).toInt64))), .second, .val (.long ((bxp.toInt32).toInt64)), .second, .unset, .unset, .unset, .unset, .unset, .unset, .unset, .unset, .unset, .unset, .unset] [(.int (((bxp.toUInt64 >>> ((32 : Int32) &&& 0x3f).toInt64.toUInt64).toInt64).toInt32)), (.long ((bxp.toInt32).toInt64))])) t
      refine X0.ldcInt hx hown (mvT hZ (hw _ (List.mem_of_getElem? (i := 0) rfl))) (g := (mkF m 42 #[.val (.int ax), .val (.int aw), .val (.int ay), .val (.int ah), .val (.long bxp), .second, .val (.long byp), .second, .val (.long (ax.toInt64)), .second, .val (.long ((ax.toInt64) + ((aw &&& (2147483647 : Int32)).toInt64))), .second, .val (.long (ay.toInt64)), .second, .val (.long ((ay.toInt64) + ((ah &&& (2147483647 : Int32)).toInt64))), .second, .val (.long ((bxp.toInt32).toInt64)), .second, .unset, .unset, .unset, .unset, .unset, .unset, .unset, .unset, .unset, .unset, .unset] [(.int (((bxp.toUInt64 >>> ((32 : Int32) &&& 0x3f).toInt64.toUInt64).toInt64).toInt32)), (.long ((bxp.toInt32).toInt64))])) rfl (hb hby at_42) _ ?_
      show Steps p.tables e below (s₁.setTop (mkF m 44 #[.val (.int ax), .val (.int aw), .val (.int ay), .val (.int ah), .val (.long bxp), .second, .val (.long byp), .second, .val (.long (ax.toInt64)), .second, .val (.long ((ax.toInt64) + ((aw &&& (2147483647 : Int32)).toInt64))), .second, .val (.long (ay.toInt64)), .second, .val (.long ((ay.toInt64) + ((ah &&& (2147483647 : Int32)).toInt64))), .second, .val (.long ((bxp.toInt32).toInt64)), .second, .unset, .unset, .unset, .unset, .unset, .unset, .unset, .unset, .unset, .unset, .unset] [(.int (2147483647 : Int32)), (.int (((bxp.toUInt64 >>> ((32 : Int32) &&& 0x3f).toInt64.toUInt64).toInt64).toInt32)), (.long ((bxp.toInt32).toInt64))])) t
      refine XS.iand X0.here hx rfl (hb hby at_44) rfl ?_
      show Steps p.tables e below (s₁.setTop (mkF m 45 #[.val (.int ax), .val (.int aw), .val (.int ay), .val (.int ah), .val (.long bxp), .second, .val (.long byp), .second, .val (.long (ax.toInt64)), .second, .val (.long ((ax.toInt64) + ((aw &&& (2147483647 : Int32)).toInt64))), .second, .val (.long (ay.toInt64)), .second, .val (.long ((ay.toInt64) + ((ah &&& (2147483647 : Int32)).toInt64))), .second, .val (.long ((bxp.toInt32).toInt64)), .second, .unset, .unset, .unset, .unset, .unset, .unset, .unset, .unset, .unset, .unset, .unset] [(.int ((((bxp.toUInt64 >>> ((32 : Int32) &&& 0x3f).toInt64.toUInt64).toInt64).toInt32) &&& (2147483647 : Int32))), (.long ((bxp.toInt32).toInt64))])) t
      refine XS.i2l X0.here hx rfl (hb hby at_45) rfl ?_
      show Steps p.tables e below (s₁.setTop (mkF m 46 #[.val (.int ax), .val (.int aw), .val (.int ay), .val (.int ah), .val (.long bxp), .second, .val (.long byp), .second, .val (.long (ax.toInt64)), .second, .val (.long ((ax.toInt64) + ((aw &&& (2147483647 : Int32)).toInt64))), .second, .val (.long (ay.toInt64)), .second, .val (.long ((ay.toInt64) + ((ah &&& (2147483647 : Int32)).toInt64))), .second, .val (.long ((bxp.toInt32).toInt64)), .second, .unset, .unset, .unset, .unset, .unset, .unset, .unset, .unset, .unset, .unset, .unset] [(.long (((((bxp.toUInt64 >>> ((32 : Int32) &&& 0x3f).toInt64.toUInt64).toInt64).toInt32) &&& (2147483647 : Int32)).toInt64)), (.long ((bxp.toInt32).toInt64))])) t
      refine XS.ladd X0.here hx rfl (hb hby at_46) rfl ?_
      show Steps p.tables e below (s₁.setTop (mkF m 47 #[.val (.int ax), .val (.int aw), .val (.int ay), .val (.int ah), .val (.long bxp), .second, .val (.long byp), .second, .val (.long (ax.toInt64)), .second, .val (.long ((ax.toInt64) + ((aw &&& (2147483647 : Int32)).toInt64))), .second, .val (.long (ay.toInt64)), .second, .val (.long ((ay.toInt64) + ((ah &&& (2147483647 : Int32)).toInt64))), .second, .val (.long ((bxp.toInt32).toInt64)), .second, .unset, .unset, .unset, .unset, .unset, .unset, .unset, .unset, .unset, .unset, .unset] [(.long (((bxp.toInt32).toInt64) + (((((bxp.toUInt64 >>> ((32 : Int32) &&& 0x3f).toInt64.toUInt64).toInt64).toInt32) &&& (2147483647 : Int32)).toInt64)))])) t
      refine XS.lstore X0.here hx rfl (hb hby at_47) rfl (l' := #[.val (.int ax), .val (.int aw), .val (.int ay), .val (.int ah), .val (.long bxp), .second, .val (.long byp), .second, .val (.long (ax.toInt64)), .second, .val (.long ((ax.toInt64) + ((aw &&& (2147483647 : Int32)).toInt64))), .second, .val (.long (ay.toInt64)), .second, .val (.long ((ay.toInt64) + ((ah &&& (2147483647 : Int32)).toInt64))), .second, .val (.long ((bxp.toInt32).toInt64)), .second, .val (.long (((bxp.toInt32).toInt64) + (((((bxp.toUInt64 >>> ((32 : Int32) &&& 0x3f).toInt64.toUInt64).toInt64).toInt32) &&& (2147483647 : Int32)).toInt64))), .second, .unset, .unset, .unset, .unset, .unset, .unset, .unset, .unset, .unset]) rfl ?_
      show Steps p.tables e below (s₁.setTop (mkF m 49 #[.val (.int ax), .val (.int aw), .val (.int ay), .val (.int ah), .val (.long bxp), .second, .val (.long byp), .second, .val (.long (ax.toInt64)), .second, .val (.long ((ax.toInt64) + ((aw &&& (2147483647 : Int32)).toInt64))), .second, .val (.long (ay.toInt64)), .second, .val (.long ((ay.toInt64) + ((ah &&& (2147483647 : Int32)).toInt64))), .second, .val (.long ((bxp.toInt32).toInt64)), .second, .val (.long (((bxp.toInt32).toInt64) + (((((bxp.toUInt64 >>> ((32 : Int32) &&& 0x3f).toInt64.toUInt64).toInt64).toInt32) &&& (2147483647 : Int32)).toInt64))), .second, .unset, .unset, .unset, .unset, .unset, .unset, .unset, .unset, .unset] [])) t
      refine XS.lload X0.here hx rfl (hb hby at_49) rfl ?_
      show Steps p.tables e below (s₁.setTop (mkF m 51 #[.val (.int ax), .val (.int aw), .val (.int ay), .val (.int ah), .val (.long bxp), .second, .val (.long byp), .second, .val (.long (ax.toInt64)), .second, .val (.long ((ax.toInt64) + ((aw &&& (2147483647 : Int32)).toInt64))), .second, .val (.long (ay.toInt64)), .second, .val (.long ((ay.toInt64) + ((ah &&& (2147483647 : Int32)).toInt64))), .second, .val (.long ((bxp.toInt32).toInt64)), .second, .val (.long (((bxp.toInt32).toInt64) + (((((bxp.toUInt64 >>> ((32 : Int32) &&& 0x3f).toInt64.toUInt64).toInt64).toInt32) &&& (2147483647 : Int32)).toInt64))), .second, .unset, .unset, .unset, .unset, .unset, .unset, .unset, .unset, .unset] [(.long byp)])) t
      refine XS.l2i X0.here hx rfl (hb hby at_51) rfl ?_
      show Steps p.tables e below (s₁.setTop (mkF m 52 #[.val (.int ax), .val (.int aw), .val (.int ay), .val (.int ah), .val (.long bxp), .second, .val (.long byp), .second, .val (.long (ax.toInt64)), .second, .val (.long ((ax.toInt64) + ((aw &&& (2147483647 : Int32)).toInt64))), .second, .val (.long (ay.toInt64)), .second, .val (.long ((ay.toInt64) + ((ah &&& (2147483647 : Int32)).toInt64))), .second, .val (.long ((bxp.toInt32).toInt64)), .second, .val (.long (((bxp.toInt32).toInt64) + (((((bxp.toUInt64 >>> ((32 : Int32) &&& 0x3f).toInt64.toUInt64).toInt64).toInt32) &&& (2147483647 : Int32)).toInt64))), .second, .unset, .unset, .unset, .unset, .unset, .unset, .unset, .unset, .unset] [(.int (byp.toInt32))])) t
      refine XS.i2l X0.here hx rfl (hb hby at_52) rfl ?_
      show Steps p.tables e below (s₁.setTop (mkF m 53 #[.val (.int ax), .val (.int aw), .val (.int ay), .val (.int ah), .val (.long bxp), .second, .val (.long byp), .second, .val (.long (ax.toInt64)), .second, .val (.long ((ax.toInt64) + ((aw &&& (2147483647 : Int32)).toInt64))), .second, .val (.long (ay.toInt64)), .second, .val (.long ((ay.toInt64) + ((ah &&& (2147483647 : Int32)).toInt64))), .second, .val (.long ((bxp.toInt32).toInt64)), .second, .val (.long (((bxp.toInt32).toInt64) + (((((bxp.toUInt64 >>> ((32 : Int32) &&& 0x3f).toInt64.toUInt64).toInt64).toInt32) &&& (2147483647 : Int32)).toInt64))), .second, .unset, .unset, .unset, .unset, .unset, .unset, .unset, .unset, .unset] [(.long ((byp.toInt32).toInt64))])) t
      refine XS.lstore X0.here hx rfl (hb hby at_53) rfl (l' := #[.val (.int ax), .val (.int aw), .val (.int ay), .val (.int ah), .val (.long bxp), .second, .val (.long byp), .second, .val (.long (ax.toInt64)), .second, .val (.long ((ax.toInt64) + ((aw &&& (2147483647 : Int32)).toInt64))), .second, .val (.long (ay.toInt64)), .second, .val (.long ((ay.toInt64) + ((ah &&& (2147483647 : Int32)).toInt64))), .second, .val (.long ((bxp.toInt32).toInt64)), .second, .val (.long (((bxp.toInt32).toInt64) + (((((bxp.toUInt64 >>> ((32 : Int32) &&& 0x3f).toInt64.toUInt64).toInt64).toInt32) &&& (2147483647 : Int32)).toInt64))), .second, .val (.long ((byp.toInt32).toInt64)), .second, .unset, .unset, .unset, .unset, .unset, .unset, .unset]) rfl ?_
      show Steps p.tables e below (s₁.setTop (mkF m 55 #[.val (.int ax), .val (.int aw), .val (.int ay), .val (.int ah), .val (.long bxp), .second, .val (.long byp), .second, .val (.long (ax.toInt64)), .second, .val (.long ((ax.toInt64) + ((aw &&& (2147483647 : Int32)).toInt64))), .second, .val (.long (ay.toInt64)), .second, .val (.long ((ay.toInt64) + ((ah &&& (2147483647 : Int32)).toInt64))), .second, .val (.long ((bxp.toInt32).toInt64)), .second, .val (.long (((bxp.toInt32).toInt64) + (((((bxp.toUInt64 >>> ((32 : Int32) &&& 0x3f).toInt64.toUInt64).toInt64).toInt32) &&& (2147483647 : Int32)).toInt64))), .second, .val (.long ((byp.toInt32).toInt64)), .second, .unset, .unset, .unset, .unset, .unset, .unset, .unset] [])) t
      refine XS.lload X0.here hx rfl (hb hby at_55) rfl ?_
      show Steps p.tables e below (s₁.setTop (mkF m 57 #[.val (.int ax), .val (.int aw), .val (.int ay), .val (.int ah), .val (.long bxp), .second, .val (.long byp), .second, .val (.long (ax.toInt64)), .second, .val (.long ((ax.toInt64) + ((aw &&& (2147483647 : Int32)).toInt64))), .second, .val (.long (ay.toInt64)), .second, .val (.long ((ay.toInt64) + ((ah &&& (2147483647 : Int32)).toInt64))), .second, .val (.long ((bxp.toInt32).toInt64)), .second, .val (.long (((bxp.toInt32).toInt64) + (((((bxp.toUInt64 >>> ((32 : Int32) &&& 0x3f).toInt64.toUInt64).toInt64).toInt32) &&& (2147483647 : Int32)).toInt64))), .second, .val (.long ((byp.toInt32).toInt64)), .second, .unset, .unset, .unset, .unset, .unset, .unset, .unset] [(.long ((byp.toInt32).toInt64))])) t
      refine XS.lload X0.here hx rfl (hb hby at_57) rfl ?_
      show Steps p.tables e below (s₁.setTop (mkF m 59 #[.val (.int ax), .val (.int aw), .val (.int ay), .val (.int ah), .val (.long bxp), .second, .val (.long byp), .second, .val (.long (ax.toInt64)), .second, .val (.long ((ax.toInt64) + ((aw &&& (2147483647 : Int32)).toInt64))), .second, .val (.long (ay.toInt64)), .second, .val (.long ((ay.toInt64) + ((ah &&& (2147483647 : Int32)).toInt64))), .second, .val (.long ((bxp.toInt32).toInt64)), .second, .val (.long (((bxp.toInt32).toInt64) + (((((bxp.toUInt64 >>> ((32 : Int32) &&& 0x3f).toInt64.toUInt64).toInt64).toInt32) &&& (2147483647 : Int32)).toInt64))), .second, .val (.long ((byp.toInt32).toInt64)), .second, .unset, .unset, .unset, .unset, .unset, .unset, .unset] [(.long byp), (.long ((byp.toInt32).toInt64))])) t
      refine XS.bipush X0.here hx rfl (hb hby at_59) ?_
      show Steps p.tables e below (s₁.setTop (mkF m 61 #[.val (.int ax), .val (.int aw), .val (.int ay), .val (.int ah), .val (.long bxp), .second, .val (.long byp), .second, .val (.long (ax.toInt64)), .second, .val (.long ((ax.toInt64) + ((aw &&& (2147483647 : Int32)).toInt64))), .second, .val (.long (ay.toInt64)), .second, .val (.long ((ay.toInt64) + ((ah &&& (2147483647 : Int32)).toInt64))), .second, .val (.long ((bxp.toInt32).toInt64)), .second, .val (.long (((bxp.toInt32).toInt64) + (((((bxp.toUInt64 >>> ((32 : Int32) &&& 0x3f).toInt64.toUInt64).toInt64).toInt32) &&& (2147483647 : Int32)).toInt64))), .second, .val (.long ((byp.toInt32).toInt64)), .second, .unset, .unset, .unset, .unset, .unset, .unset, .unset] [(.int (32 : Int32)), (.long byp), (.long ((byp.toInt32).toInt64))])) t
      refine XS.lushr X0.here hx rfl (hb hby at_61) rfl ?_
      show Steps p.tables e below (s₁.setTop (mkF m 62 #[.val (.int ax), .val (.int aw), .val (.int ay), .val (.int ah), .val (.long bxp), .second, .val (.long byp), .second, .val (.long (ax.toInt64)), .second, .val (.long ((ax.toInt64) + ((aw &&& (2147483647 : Int32)).toInt64))), .second, .val (.long (ay.toInt64)), .second, .val (.long ((ay.toInt64) + ((ah &&& (2147483647 : Int32)).toInt64))), .second, .val (.long ((bxp.toInt32).toInt64)), .second, .val (.long (((bxp.toInt32).toInt64) + (((((bxp.toUInt64 >>> ((32 : Int32) &&& 0x3f).toInt64.toUInt64).toInt64).toInt32) &&& (2147483647 : Int32)).toInt64))), .second, .val (.long ((byp.toInt32).toInt64)), .second, .unset, .unset, .unset, .unset, .unset, .unset, .unset] [(.long ((byp.toUInt64 >>> ((32 : Int32) &&& 0x3f).toInt64.toUInt64).toInt64)), (.long ((byp.toInt32).toInt64))])) t
      refine XS.l2i X0.here hx rfl (hb hby at_62) rfl ?_
      show Steps p.tables e below (s₁.setTop (mkF m 63 #[.val (.int ax), .val (.int aw), .val (.int ay), .val (.int ah), .val (.long bxp), .second, .val (.long byp), .second, .val (.long (ax.toInt64)), .second, .val (.long ((ax.toInt64) + ((aw &&& (2147483647 : Int32)).toInt64))), .second, .val (.long (ay.toInt64)), .second, .val (.long ((ay.toInt64) + ((ah &&& (2147483647 : Int32)).toInt64))), .second, .val (.long ((bxp.toInt32).toInt64)), .second, .val (.long (((bxp.toInt32).toInt64) + (((((bxp.toUInt64 >>> ((32 : Int32) &&& 0x3f).toInt64.toUInt64).toInt64).toInt32) &&& (2147483647 : Int32)).toInt64))), .second, .val (.long ((byp.toInt32).toInt64)), .second, .unset, .unset, .unset, .unset, .unset, .unset, .unset] [(.int (((byp.toUInt64 >>> ((32 : Int32) &&& 0x3f).toInt64.toUInt64).toInt64).toInt32)), (.long ((byp.toInt32).toInt64))])) t
      refine X0.ldcInt hx hown (mvT hZ (hw _ (List.mem_of_getElem? (i := 0) rfl))) (g := (mkF m 63 #[.val (.int ax), .val (.int aw), .val (.int ay), .val (.int ah), .val (.long bxp), .second, .val (.long byp), .second, .val (.long (ax.toInt64)), .second, .val (.long ((ax.toInt64) + ((aw &&& (2147483647 : Int32)).toInt64))), .second, .val (.long (ay.toInt64)), .second, .val (.long ((ay.toInt64) + ((ah &&& (2147483647 : Int32)).toInt64))), .second, .val (.long ((bxp.toInt32).toInt64)), .second, .val (.long (((bxp.toInt32).toInt64) + (((((bxp.toUInt64 >>> ((32 : Int32) &&& 0x3f).toInt64.toUInt64).toInt64).toInt32) &&& (2147483647 : Int32)).toInt64))), .second, .val (.long ((byp.toInt32).toInt64)), .second, .unset, .unset, .unset, .unset, .unset, .unset, .unset] [(.int (((byp.toUInt64 >>> ((32 : Int32) &&& 0x3f).toInt64.toUInt64).toInt64).toInt32)), (.long ((byp.toInt32).toInt64))])) rfl (hb hby at_63) _ ?_
      show Steps p.tables e below (s₁.setTop (mkF m 65 #[.val (.int ax), .val (.int aw), .val (.int ay), .val (.int ah), .val (.long bxp), .second, .val (.long byp), .second, .val (.long (ax.toInt64)), .second, .val (.long ((ax.toInt64) + ((aw &&& (2147483647 : Int32)).toInt64))), .second, .val (.long (ay.toInt64)), .second, .val (.long ((ay.toInt64) + ((ah &&& (2147483647 : Int32)).toInt64))), .second, .val (.long ((bxp.toInt32).toInt64)), .second, .val (.long (((bxp.toInt32).toInt64) + (((((bxp.toUInt64 >>> ((32 : Int32) &&& 0x3f).toInt64.toUInt64).toInt64).toInt32) &&& (2147483647 : Int32)).toInt64))), .second, .val (.long ((byp.toInt32).toInt64)), .second, .unset, .unset, .unset, .unset, .unset, .unset, .unset] [(.int (2147483647 : Int32)), (.int (((byp.toUInt64 >>> ((32 : Int32) &&& 0x3f).toInt64.toUInt64).toInt64).toInt32)), (.long ((byp.toInt32).toInt64))])) t
      refine XS.iand X0.here hx rfl (hb hby at_65) rfl ?_
      show Steps p.tables e below (s₁.setTop (mkF m 66 #[.val (.int ax), .val (.int aw), .val (.int ay), .val (.int ah), .val (.long bxp), .second, .val (.long byp), .second, .val (.long (ax.toInt64)), .second, .val (.long ((ax.toInt64) + ((aw &&& (2147483647 : Int32)).toInt64))), .second, .val (.long (ay.toInt64)), .second, .val (.long ((ay.toInt64) + ((ah &&& (2147483647 : Int32)).toInt64))), .second, .val (.long ((bxp.toInt32).toInt64)), .second, .val (.long (((bxp.toInt32).toInt64) + (((((bxp.toUInt64 >>> ((32 : Int32) &&& 0x3f).toInt64.toUInt64).toInt64).toInt32) &&& (2147483647 : Int32)).toInt64))), .second, .val (.long ((byp.toInt32).toInt64)), .second, .unset, .unset, .unset, .unset, .unset, .unset, .unset] [(.int ((((byp.toUInt64 >>> ((32 : Int32) &&& 0x3f).toInt64.toUInt64).toInt64).toInt32) &&& (2147483647 : Int32))), (.long ((byp.toInt32).toInt64))])) t
      refine XS.i2l X0.here hx rfl (hb hby at_66) rfl ?_
      show Steps p.tables e below (s₁.setTop (mkF m 67 #[.val (.int ax), .val (.int aw), .val (.int ay), .val (.int ah), .val (.long bxp), .second, .val (.long byp), .second, .val (.long (ax.toInt64)), .second, .val (.long ((ax.toInt64) + ((aw &&& (2147483647 : Int32)).toInt64))), .second, .val (.long (ay.toInt64)), .second, .val (.long ((ay.toInt64) + ((ah &&& (2147483647 : Int32)).toInt64))), .second, .val (.long ((bxp.toInt32).toInt64)), .second, .val (.long (((bxp.toInt32).toInt64) + (((((bxp.toUInt64 >>> ((32 : Int32) &&& 0x3f).toInt64.toUInt64).toInt64).toInt32) &&& (2147483647 : Int32)).toInt64))), .second, .val (.long ((byp.toInt32).toInt64)), .second, .unset, .unset, .unset, .unset, .unset, .unset, .unset] [(.long (((((byp.toUInt64 >>> ((32 : Int32) &&& 0x3f).toInt64.toUInt64).toInt64).toInt32) &&& (2147483647 : Int32)).toInt64)), (.long ((byp.toInt32).toInt64))])) t
      refine XS.ladd X0.here hx rfl (hb hby at_67) rfl ?_
      show Steps p.tables e below (s₁.setTop (mkF m 68 #[.val (.int ax), .val (.int aw), .val (.int ay), .val (.int ah), .val (.long bxp), .second, .val (.long byp), .second, .val (.long (ax.toInt64)), .second, .val (.long ((ax.toInt64) + ((aw &&& (2147483647 : Int32)).toInt64))), .second, .val (.long (ay.toInt64)), .second, .val (.long ((ay.toInt64) + ((ah &&& (2147483647 : Int32)).toInt64))), .second, .val (.long ((bxp.toInt32).toInt64)), .second, .val (.long (((bxp.toInt32).toInt64) + (((((bxp.toUInt64 >>> ((32 : Int32) &&& 0x3f).toInt64.toUInt64).toInt64).toInt32) &&& (2147483647 : Int32)).toInt64))), .second, .val (.long ((byp.toInt32).toInt64)), .second, .unset, .unset, .unset, .unset, .unset, .unset, .unset] [(.long (((byp.toInt32).toInt64) + (((((byp.toUInt64 >>> ((32 : Int32) &&& 0x3f).toInt64.toUInt64).toInt64).toInt32) &&& (2147483647 : Int32)).toInt64)))])) t
      refine XS.lstore X0.here hx rfl (hb hby at_68) rfl (l' := #[.val (.int ax), .val (.int aw), .val (.int ay), .val (.int ah), .val (.long bxp), .second, .val (.long byp), .second, .val (.long (ax.toInt64)), .second, .val (.long ((ax.toInt64) + ((aw &&& (2147483647 : Int32)).toInt64))), .second, .val (.long (ay.toInt64)), .second, .val (.long ((ay.toInt64) + ((ah &&& (2147483647 : Int32)).toInt64))), .second, .val (.long ((bxp.toInt32).toInt64)), .second, .val (.long (((bxp.toInt32).toInt64) + (((((bxp.toUInt64 >>> ((32 : Int32) &&& 0x3f).toInt64.toUInt64).toInt64).toInt32) &&& (2147483647 : Int32)).toInt64))), .second, .val (.long ((byp.toInt32).toInt64)), .second, .val (.long (((byp.toInt32).toInt64) + (((((byp.toUInt64 >>> ((32 : Int32) &&& 0x3f).toInt64.toUInt64).toInt64).toInt32) &&& (2147483647 : Int32)).toInt64))), .second, .unset, .unset, .unset, .unset, .unset]) rfl ?_
      exact kt
    exact ⟨s₁, ((ax.toInt64)), (((ax.toInt64) + ((aw &&& (2147483647 : Int32)).toInt64))), ((ay.toInt64)), (((ay.toInt64) + ((ah &&& (2147483647 : Int32)).toInt64))), (((bxp.toInt32).toInt64)), ((((bxp.toInt32).toInt64) + (((((bxp.toUInt64 >>> ((32 : Int32) &&& 0x3f).toInt64.toUInt64).toInt64).toInt32) &&& (2147483647 : Int32)).toInt64))), (((byp.toInt32).toInt64)), ((((byp.toInt32).toInt64) + (((((byp.toUInt64 >>> ((32 : Int32) &&& 0x3f).toInt64.toUInt64).toInt64).toInt32) &&& (2147483647 : Int32)).toInt64))), X0, e0, (⟨own_r1 _ _, own_r1 _ _, own_r1 _ _, own_r1 _ _⟩), S2⟩
  obtain ⟨T3, h3, X3, e3, E3, A3, D3, -, st3⟩ := newO X1 hx hZ hown (hw _ (List.mem_of_getElem? (i := 1) rfl)) (hw _ (List.mem_of_getElem? (i := 2) rfl)) (hw _ (List.mem_of_getElem? (i := 3) rfl)) e1 (g := (mkF m 70 #[.val (.int ax), .val (.int aw), .val (.int ay), .val (.int ah), .val (.long bxp), .second, .val (.long byp), .second, .val (.long p1), .second, .val (.long p2), .second, .val (.long p3), .second, .val (.long p4), .second, .val (.long q1), .second, .val (.long q2), .second, .val (.long q3), .second, .val (.long q4), .second, .unset, .unset, .unset, .unset, .unset] [])) rfl (hb hby at_70) (by decide) (by decide)
  obtain ⟨b3, g3⟩ : ∃ z, z = h0.size := ⟨_, rfl⟩
  rw [← g3] at A3 D3 st3
  have S4 : ∀ t, Steps p.tables e below (T3.setTop (mkF m 73 #[.val (.int ax), .val (.int aw), .val (.int ay), .val (.int ah), .val (.long bxp), .second, .val (.long byp), .second, .val (.long p1), .second, .val (.long p2), .second, .val (.long p3), .second, .val (.long p4), .second, .val (.long q1), .second, .val (.long q2), .second, .val (.long q3), .second, .val (.long q4), .second, .unset, .unset, .unset, .unset, .unset] [(.ref b3)])) t → Steps p.tables e below (s₁.setTop (entryFrame m #[(.int ax), (.int aw), (.int ay), (.int ah), (.long bxp), (.long byp)] maxLocals)) t := fun t kt => S1 t (st3 _ kt)
  have g_b3 : n0 ≤ b3 := Nat.le_trans Z0 (Nat.le_of_eq g3.symm)
  have sz_b3 : h0.size ≤ b3 := Nat.le_trans (Keep.refl h0 []).1 (Nat.le_of_eq g3.symm)
  have K5 : Keep h0 h3 [] := (Keep.refl h0 []).ext E3
  have F6 : Fld Z h3 b3 "com/example/siteward/siteward/plane/Box" "xMin" "D" (.double (0 : UInt64)) := D3 (Or.inr (hw _ (List.mem_of_getElem? (i := 11) rfl))) (ty := .double) (by decide)
  have F7 : Fld Z h3 b3 "com/example/siteward/siteward/plane/Box" "xMax" "D" (.double (0 : UInt64)) := D3 (Or.inr (hw _ (List.mem_of_getElem? (i := 13) rfl))) (ty := .double) (by decide)
  have F8 : Fld Z h3 b3 "com/example/siteward/siteward/plane/Box" "yMin" "D" (.double (0 : UInt64)) := D3 (Or.inr (hw _ (List.mem_of_getElem? (i := 15) rfl))) (ty := .double) (by decide)
  have F9 : Fld Z h3 b3 "com/example/siteward/siteward/plane/Box" "yMax" "D" (.double (0 : UInt64)) := D3 (Or.inr (hw _ (List.mem_of_getElem? (i := 17) rfl))) (ty := .double) (by decide)
  have S12 : ∀ t, Steps p.tables e below (T3.setTop (mkF m 86 #[.val (.int ax), .val (.int aw), .val (.int ay), .val (.int ah), .val (.long bxp), .second, .val (.long byp), .second, .val (.long p1), .second, .val (.long p2), .second, .val (.long p3), .second, .val (.long p4), .second, .val (.long q1), .second, .val (.long q2), .second, .val (.long q3), .second, .val (.long q4), .second, .unset, .unset, .unset, .unset, .unset] [(.double (FP.l2d p4)), (.double (FP.l2d p3)), (.double (FP.l2d p2)), (.double (FP.l2d p1)), (.ref b3), (.ref b3)])) t → Steps p.tables e below (s₁.setTop (entryFrame m #[(.int ax), (.int aw), (.int ay), (.int ah), (.long bxp), (.long byp)] maxLocals)) t := fun t kt => by
    refine S4 t ?_
    show Steps p.tables e below (T3.setTop (mkF m 73 #[.val (.int ax), .val (.int aw), .val (.int ay), .val (.int ah), .val (.long bxp), .second, .val (.long byp), .second, .val (.long p1), .second, .val (.long p2), .second, .val (.long p3), .second, .val (.long p4), .second, .val (.long q1), .second, .val (.long q2), .second, .val (.long q3), .second, .val (.long q4), .second, .unset, .unset, .unset, .unset, .unset] [(.ref b3)])) t
    refine XS.dup X3.here hx rfl (hb hby at_73) rfl rfl ?_
    show Steps p.tables e below (T3.setTop (mkF m 74 #[.val (.int ax), .val (.int aw), .val (.int ay), .val (.int ah), .val (.long bxp), .second, .val (.long byp), .second, .val (.long p1), .second, .val (.long p2), .second, .val (.long p3), .second, .val (.long p4), .second, .val (.long q1), .second, .val (.long q2), .second, .val (.long q3), .second, .val (.long q4), .second, .unset, .unset, .unset, .unset, .unset] [(.ref b3), (.ref b3)])) t
    refine XS.lload X3.here hx rfl (hb hby at_74) rfl ?_
    show Steps p.tables e below (T3.setTop (mkF m 76 #[.val (.int ax), .val (.int aw), .val (.int ay), .val (.int ah), .val (.long bxp), .second, .val (.long byp), .second, .val (.long p1), .second, .val (.long p2), .second, .val (.long p3), .second, .val (.long p4), .second, .val (.long q1), .second, .val (.long q2), .second, .val (.long q3), .second, .val (.long q4), .second, .unset, .unset, .unset, .unset, .unset] [(.long p1), (.ref b3), (.ref b3)])) t
    jvm_step X3.here [X3.here.top, hx, (hb hby at_76)]
    show Steps p.tables e below (T3.setTop (mkF m 77 #[.val (.int ax), .val (.int aw), .val (.int ay), .val (.int ah), .val (.long bxp), .second, .val (.long byp), .second, .val (.long p1), .second, .val (.long p2), .second, .val (.long p3), .second, .val (.long p4), .second, .val (.long q1), .second, .val (.long q2), .second, .val (.long q3), .second, .val (.long q4), .second, .unset, .unset, .unset, .unset, .unset] [(.double (FP.l2d p1)), (.ref b3), (.ref b3)])) t
    refine XS.lload X3.here hx rfl (hb hby at_77) rfl ?_
    show Steps p.tables e below (T3.setTop (mkF m 79 #[.val (.int ax), .val (.int aw), .val (.int ay), .val (.int ah), .val (.long bxp), .second, .val (.long byp), .second, .val (.long p1), .second, .val (.long p2), .second, .val (.long p3), .second, .val (.long p4), .second, .val (.long q1), .second, .val (.long q2), .second, .val (.long q3), .second, .val (.long q4), .second, .unset, .unset, .unset, .unset, .unset] [(.long p2), (.double (FP.l2d p1)), (.ref b3), (.ref b3)])) t
    jvm_step X3.here [X3.here.top, hx, (hb hby at_79)]
    show Steps p.tables e below (T3.setTop (mkF m 80 #[.val (.int ax), .val (.int aw), .val (.int ay), .val (.int ah), .val (.long bxp), .second, .val (.long byp), .second, .val (.long p1), .second, .val (.long p2), .second, .val (.long p3), .second, .val (.long p4), .second, .val (.long q1), .second, .val (.long q2), .second, .val (.long q3), .second, .val (.long q4), .second, .unset, .unset, .unset, .unset, .unset] [(.double (FP.l2d p2)), (.double (FP.l2d p1)), (.ref b3), (.ref b3)])) t
    refine XS.lload X3.here hx rfl (hb hby at_80) rfl ?_
    show Steps p.tables e below (T3.setTop (mkF m 82 #[.val (.int ax), .val (.int aw), .val (.int ay), .val (.int ah), .val (.long bxp), .second, .val (.long byp), .second, .val (.long p1), .second, .val (.long p2), .second, .val (.long p3), .second, .val (.long p4), .second, .val (.long q1), .second, .val (.long q2), .second, .val (.long q3), .second, .val (.long q4), .second, .unset, .unset, .unset, .unset, .unset] [(.long p3), (.double (FP.l2d p2)), (.double (FP.l2d p1)), (.ref b3), (.ref b3)])) t
    jvm_step X3.here [X3.here.top, hx, (hb hby at_82)]
    show Steps p.tables e below (T3.setTop (mkF m 83 #[.val (.int ax), .val (.int aw), .val (.int ay), .val (.int ah), .val (.long bxp), .second, .val (.long byp), .second, .val (.long p1), .second, .val (.long p2), .second, .val (.long p3), .second, .val (.long p4), .second, .val (.long q1), .second, .val (.long q2), .second, .val (.long q3), .second, .val (.long q4), .second, .unset, .unset, .unset, .unset, .unset] [(.double (FP.l2d p3)), (.double (FP.l2d p2)), (.double (FP.l2d p1)), (.ref b3), (.ref b3)])) t
    refine XS.lload X3.here hx rfl (hb hby at_83) rfl ?_
    show Steps p.tables e below (T3.setTop (mkF m 85 #[.val (.int ax), .val (.int aw), .val (.int ay), .val (.int ah), .val (.long bxp), .second, .val (.long byp), .second, .val (.long p1), .second, .val (.long p2), .second, .val (.long p3), .second, .val (.long p4), .second, .val (.long q1), .second, .val (.long q2), .second, .val (.long q3), .second, .val (.long q4), .second, .unset, .unset, .unset, .unset, .unset] [(.long p4), (.double (FP.l2d p3)), (.double (FP.l2d p2)), (.double (FP.l2d p1)), (.ref b3), (.ref b3)])) t
    jvm_step X3.here [X3.here.top, hx, (hb hby at_85)]
    exact kt
  obtain ⟨_, _, ⟨T13, L13, k13, n13⟩, -, X13, ⟨Lc13, hQ13, l13, y13, z13⟩, st13⟩ := X3.specialBack hx (y := (⟨"com/example/siteward/siteward/plane/Box", "<init>", "(DDDD)V"⟩ : MethodName)) rfl hown (mvT hZ (hw _ (List.mem_of_getElem? (i := 4) rfl))) (mvT hZ (hw _ (List.mem_of_getElem? (i := 5) rfl))) (mvT hZ (hw _ (List.mem_of_getElem? (i := 6) rfl))) (by decide) (backOf (W := 1) (own_rm1 l Z a0 hw [] (b3) ((FP.l2d p1)) ((FP.l2d p2)) ((FP.l2d p3)) ((FP.l2d p4)) ((.double (0 : UInt64))) ((.double (0 : UInt64))) ((.double (0 : UInt64))) ((.double (0 : UInt64))) h3 n0 (Nat.le_trans Z0 K5.1) A3 g_b3 F6 F7 F8 F9 (fun q => by have := (own_gt_int (by unfold own_rng at hr0; omega) (by unfold own_rng at hr0; omega)).mp q; unfold own_rng at hr0; omega) (fun q => by have := (own_gt_int (by unfold own_rng at hr0; omega) (by unfold own_rng at hr0; omega)).mp q; unfold own_rng at hr0; omega)) hZ (hw _ (List.mem_of_getElem? (i := 6) rfl)) (hw _ (List.mem_of_getElem? (i := 3) rfl)) (by decide) (by decide)) (g := (mkF m 86 #[.val (.int ax), .val (.int aw), .val (.int ay), .val (.int ah), .val (.long bxp), .second, .val (.long byp), .second, .val (.long p1), .second, .val (.long p2), .second, .val (.long p3), .second, .val (.long p4), .second, .val (.long q1), .second, .val (.long q2), .second, .val (.long q3), .second, .val (.long q4), .second, .unset, .unset, .unset, .unset, .unset] [(.double (FP.l2d p4)), (.double (FP.l2d p3)), (.double (FP.l2d p2)), (.double (FP.l2d p1)), (.ref b3), (.ref b3)])) rfl (by rw [hml]; rfl) (Steps.refl _) (a := b3) (argsL := [(.double (FP.l2d p1)), (.double (FP.l2d p2)), (.double (FP.l2d p3)), (.double (FP.l2d p4))]) (rest := [(.ref b3)]) (lenOf own_pd0 rfl) rfl (by show 2 * 0 + _ ≤ _; exact Nat.le_of_eq rfl) (hb hby at_86) (fun _ _ => ⟨rfl, e3, (by decide : 1 + 0 ≤ _), (by decide : 4 + 0 ≤ _)⟩)
  dsimp only [Pt.U, Pt.locs, Pt.cells, Pt.slots] at X13 l13 y13 z13 st13 hQ13
  subst l13 y13 z13
  obtain ⟨rfl, Nq13, Kc10, Ec10, Fc10_xMin, Fc10_xMax, Fc10_yMin, Fc10_yMax⟩ := hQ13
  have N14 := Fr.app N0 Nq13
  have S15 : ∀ t, Steps p.tables e below (T13.setTop (mkF m 89 #[.val (.int ax), .val (.int aw), .val (.int ay), .val (.int ah), .val (.long bxp), .second, .val (.long byp), .second, .val (.long p1), .second, .val (.long p2), .second, .val (.long p3), .second, .val (.long p4), .second, .val (.long q1), .second, .val (.long q2), .second, .val (.long q3), .second, .val (.long q4), .second, .unset, .unset, .unset, .unset, .unset] [(.ref b3)])) t → Steps p.tables e below (s₁.setTop (entryFrame m #[(.int ax), (.int aw), (.int ay), (.int ah), (.long bxp), (.long byp)] maxLocals)) t := fun t kt => S12 t (st13.trans kt)
  have F16 := A3.keep Kc10
  have K17 : Keep h0 T13.heap [] := K5.trans Kc10 (allS (Or.inr sz_b3) all0)
  have S18 : ∀ t, Steps p.tables e below (T13.setTop (mkF m 91 #[.val (.int ax), .val (.int aw), .val (.int ay), .val (.int ah), .val (.long bxp), .second, .val (.long byp), .second, .val (.long p1), .second, .val (.long p2), .second, .val (.long p3), .second, .val (.long p4), .second, .val (.long q1), .second, .val (.long q2), .second, .val (.long q3), .second, .val (.long q4), .second, .val (.ref b3), .unset, .unset, .unset, .unset] [])) t → Steps p.tables e below (s₁.setTop (entryFrame m #[(.int ax), (.int aw), (.int ay), (.int ah), (.long bxp), (.long byp)] maxLocals)) t := fun t kt => by
    refine S15 t ?_
    show Steps p.tables e below (T13.setTop (mkF m 89 #[.val (.int ax), .val (.int aw), .val (.int ay), .val (.int ah), .val (.long bxp), .second, .val (.long byp), .second, .val (.long p1), .second, .val (.long p2), .second, .val (.long p3), .second, .val (.long p4), .second, .val (.long q1), .second, .val (.long q2), .second, .val (.long q3), .second, .val (.long q4), .second, .unset, .unset, .unset, .unset, .unset] [(.ref b3)])) t
    refine XS.astore X13.here hx rfl (hb hby at_89) rfl rfl (l' := #[.val (.int ax), .val (.int aw), .val (.int ay), .val (.int ah), .val (.long bxp), .second, .val (.long byp), .second, .val (.long p1), .second, .val (.long p2), .second, .val (.long p3), .second, .val (.long p4), .second, .val (.long q1), .second, .val (.long q2), .second, .val (.long q3), .second, .val (.long q4), .second, .val (.ref b3), .unset, .unset, .unset, .unset]) rfl ?_
    exact kt
  obtain ⟨T19, h19, X19, e19, E19, A19, D19, -, st19⟩ := newO X13 hx hZ hown (hw _ (List.mem_of_getElem? (i := 1) rfl)) (hw _ (List.mem_of_getElem? (i := 2) rfl)) (hw _ (List.mem_of_getElem? (i := 3) rfl)) rfl (g := (mkF m 91 #[.val (.int ax), .val (.int aw), .val (.int ay), .val (.int ah), .val (.long bxp), .second, .val (.long byp), .second, .val (.long p1), .second, .val (.long p2), .second, .val (.long p3), .second, .val (.long p4), .second, .val (.long q1), .second, .val (.long q2), .second, .val (.long q3), .second, .val (.long q4), .second, .val (.ref b3), .unset, .unset, .unset, .unset] [])) rfl (hb hby at_91) (by decide) (by decide)
  obtain ⟨b19, g19⟩ : ∃ z, z = T13.heap.size := ⟨_, rfl⟩
  rw [← g19] at A19 D19 st19
  have S20 : ∀ t, Steps p.tables e below (T19.setTop (mkF m 94 #[.val (.int ax), .val (.int aw), .val (.int ay), .val (.int ah), .val (.long bxp), .second, .val (.long byp), .second, .val (.long p1), .second, .val (.long p2), .second, .val (.long p3), .second, .val (.long p4), .second, .val (.long q1), .second, .val (.long q2), .second, .val (.long q3), .second, .val (.long q4), .second, .val (.ref b3), .unset, .unset, .unset, .unset] [(.ref b19)])) t → Steps p.tables e below (s₁.setTop (entryFrame m #[(.int ax), (.int aw), (.int ay), (.int ah), (.long bxp), (.long byp)] maxLocals)) t := fun t kt => S18 t (st19 _ kt)
  have g_b19 : n0 ≤ b19 := Nat.le_trans (Nat.le_trans Z0 K17.1) (Nat.le_of_eq g19.symm)
  have sz_b19 : h0.size ≤ b19 := Nat.le_trans K17.1 (Nat.le_of_eq g19.symm)
  have ne_b3_b19 : b3 ≠ b19 := Nat.ne_of_lt (Nat.lt_of_lt_of_le F16.lt (Nat.le_of_eq g19.symm))
  have F21 := F16.ext E19
  have F22 := Fc10_xMin.ext E19
  have F23 := Fc10_xMax.ext E19
  have F24 := Fc10_yMin.ext E19
  have F25 := Fc10_yMax.ext E19
  have K26 : Keep h0 h19 [] := K17.ext E19
  have F27 : Fld Z h19 b19 "com/example/siteward/siteward/plane/Box" "xMin" "D" (.double (0 : UInt64)) := D19 (Or.inr (hw _ (List.mem_of_getElem? (i := 11) rfl))) (ty := .double) (by decide)
  have F28 : Fld Z h19 b19 "com/example/siteward/siteward/plane/Box" "xMax" "D" (.double (0 : UInt64)) := D19 (Or.inr (hw _ (List.mem_of_getElem? (i := 13) rfl))) (ty := .double) (by decide)
  have F29 : Fld Z h19 b19 "com/example/siteward/siteward/plane/Box" "yMin" "D" (.double (0 : UInt64)) := D19 (Or.inr (hw _ (List.mem_of_getElem? (i := 15) rfl))) (ty := .double) (by decide)
  have F30 : Fld Z h19 b19 "com/example/siteward/siteward/plane/Box" "yMax" "D" (.double (0 : UInt64)) := D19 (Or.inr (hw _ (List.mem_of_getElem? (i := 17) rfl))) (ty := .double) (by decide)
  have S33 : ∀ t, Steps p.tables e below (T19.setTop (mkF m 107 #[.val (.int ax), .val (.int aw), .val (.int ay), .val (.int ah), .val (.long bxp), .second, .val (.long byp), .second, .val (.long p1), .second, .val (.long p2), .second, .val (.long p3), .second, .val (.long p4), .second, .val (.long q1), .second, .val (.long q2), .second, .val (.long q3), .second, .val (.long q4), .second, .val (.ref b3), .unset, .unset, .unset, .unset] [(.double (FP.l2d q4)), (.double (FP.l2d q3)), (.double (FP.l2d q2)), (.double (FP.l2d q1)), (.ref b19), (.ref b19)])) t → Steps p.tables e below (s₁.setTop (entryFrame m #[(.int ax), (.int aw), (.int ay), (.int ah), (.long bxp), (.long byp)] maxLocals)) t := fun t kt => by
    refine S20 t ?_
    show Steps p.tables e below (T19.setTop (mkF m 94 #[.val (.int ax), .val (.int aw), .val (.int ay), .val (.int ah), .val (.long bxp), .second, .val (.long byp), .second, .val (.long p1), .second, .val (.long p2), .second, .val (.long p3), .second, .val (.long p4), .second, .val (.long q1), .second, .val (.long q2), .second, .val (.long q3), .second, .val (.long q4), .second, .val (.ref b3), .unset, .unset, .unset, .unset] [(.ref b19)])) t
    refine XS.dup X19.here hx rfl (hb hby at_94) rfl rfl ?_
    show Steps p.tables e below (T19.setTop (mkF m 95 #[.val (.int ax), .val (.int aw), .val (.int ay), .val (.int ah), .val (.long bxp), .second, .val (.long byp), .second, .val (.long p1), .second, .val (.long p2), .second, .val (.long p3), .second, .val (.long p4), .second, .val (.long q1), .second, .val (.long q2), .second, .val (.long q3), .second, .val (.long q4), .second, .val (.ref b3), .unset, .unset, .unset, .unset] [(.ref b19), (.ref b19)])) t
    refine XS.lload X19.here hx rfl (hb hby at_95) rfl ?_
    show Steps p.tables e below (T19.setTop (mkF m 97 #[.val (.int ax), .val (.int aw), .val (.int ay), .val (.int ah), .val (.long bxp), .second, .val (.long byp), .second, .val (.long p1), .second, .val (.long p2), .second, .val (.long p3), .second, .val (.long p4), .second, .val (.long q1), .second, .val (.long q2), .second, .val (.long q3), .second, .val (.long q4), .second, .val (.ref b3), .unset, .unset, .unset, .unset] [(.long q1), (.ref b19), (.ref b19)])) t
    jvm_step X19.here [X19.here.top, hx, (hb hby at_97)]
    show Steps p.tables e below (T19.setTop (mkF m 98 #[.val (.int ax), .val (.int aw), .val (.int ay), .val (.int ah), .val (.long bxp), .second, .val (.long byp), .second, .val (.long p1), .second, .val (.long p2), .second, .val (.long p3), .second, .val (.long p4), .second, .val (.long q1), .second, .val (.long q2), .second, .val (.long q3), .second, .val (.long q4), .second, .val (.ref b3), .unset, .unset, .unset, .unset] [(.double (FP.l2d q1)), (.ref b19), (.ref b19)])) t
    refine XS.lload X19.here hx rfl (hb hby at_98) rfl ?_
    show Steps p.tables e below (T19.setTop (mkF m 100 #[.val (.int ax), .val (.int aw), .val (.int ay), .val (.int ah), .val (.long bxp), .second, .val (.long byp), .second, .val (.long p1), .second, .val (.long p2), .second, .val (.long p3), .second, .val (.long p4), .second, .val (.long q1), .second, .val (.long q2), .second, .val (.long q3), .second, .val (.long q4), .second, .val (.ref b3), .unset, .unset, .unset, .unset] [(.long q2), (.double (FP.l2d q1)), (.ref b19), (.ref b19)])) t
    jvm_step X19.here [X19.here.top, hx, (hb hby at_100)]
    show Steps p.tables e below (T19.setTop (mkF m 101 #[.val (.int ax), .val (.int aw), .val (.int ay), .val (.int ah), .val (.long bxp), .second, .val (.long byp), .second, .val (.long p1), .second, .val (.long p2), .second, .val (.long p3), .second, .val (.long p4), .second, .val (.long q1), .second, .val (.long q2), .second, .val (.long q3), .second, .val (.long q4), .second, .val (.ref b3), .unset, .unset, .unset, .unset] [(.double (FP.l2d q2)), (.double (FP.l2d q1)), (.ref b19), (.ref b19)])) t
    refine XS.lload X19.here hx rfl (hb hby at_101) rfl ?_
    show Steps p.tables e below (T19.setTop (mkF m 103 #[.val (.int ax), .val (.int aw), .val (.int ay), .val (.int ah), .val (.long bxp), .second, .val (.long byp), .second, .val (.long p1), .second, .val (.long p2), .second, .val (.long p3), .second, .val (.long p4), .second, .val (.long q1), .second, .val (.long q2), .second, .val (.long q3), .second, .val (.long q4), .second, .val (.ref b3), .unset, .unset, .unset, .unset] [(.long q3), (.double (FP.l2d q2)), (.double (FP.l2d q1)), (.ref b19), (.ref b19)])) t
    jvm_step X19.here [X19.here.top, hx, (hb hby at_103)]
    show Steps p.tables e below (T19.setTop (mkF m 104 #[.val (.int ax), .val (.int aw), .val (.int ay), .val (.int ah), .val (.long bxp), .second, .val (.long byp), .second, .val (.long p1), .second, .val (.long p2), .second, .val (.long p3), .second, .val (.long p4), .second, .val (.long q1), .second, .val (.long q2), .second, .val (.long q3), .second, .val (.long q4), .second, .val (.ref b3), .unset, .unset, .unset, .unset] [(.double (FP.l2d q3)), (.double (FP.l2d q2)), (.double (FP.l2d q1)), (.ref b19), (.ref b19)])) t
    refine XS.lload X19.here hx rfl (hb hby at_104) rfl ?_
    show Steps p.tables e below (T19.setTop (mkF m 106 #[.val (.int ax), .val (.int aw), .val (.int ay), .val (.int ah), .val (.long bxp), .second, .val (.long byp), .second, .val (.long p1), .second, .val (.long p2), .second, .val (.long p3), .second, .val (.long p4), .second, .val (.long q1), .second, .val (.long q2), .second, .val (.long q3), .second, .val (.long q4), .second, .val (.ref b3), .unset, .unset, .unset, .unset] [(.long q4), (.double (FP.l2d q3)), (.double (FP.l2d q2)), (.double (FP.l2d q1)), (.ref b19), (.ref b19)])) t
    jvm_step X19.here [X19.here.top, hx, (hb hby at_106)]
    exact kt
  obtain ⟨_, _, ⟨T34, L34, k34, n34⟩, -, X34, ⟨Lc34, hQ34, l34, y34, z34⟩, st34⟩ := X19.specialBack hx (y := (⟨"com/example/siteward/siteward/plane/Box", "<init>", "(DDDD)V"⟩ : MethodName)) rfl hown (mvT hZ (hw _ (List.mem_of_getElem? (i := 4) rfl))) (mvT hZ (hw _ (List.mem_of_getElem? (i := 5) rfl))) (mvT hZ (hw _ (List.mem_of_getElem? (i := 6) rfl))) (by decide) (backOf (W := 1) (own_rm1 l Z a0 hw [] (b19) ((FP.l2d q1)) ((FP.l2d q2)) ((FP.l2d q3)) ((FP.l2d q4)) ((.double (0 : UInt64))) ((.double (0 : UInt64))) ((.double (0 : UInt64))) ((.double (0 : UInt64))) h19 n0 (Nat.le_trans Z0 K26.1) A19 g_b19 F27 F28 F29 F30 (fun q => by have := (own_gt_int (by unfold own_rng at hr0; omega) (by unfold own_rng at hr0; omega)).mp q; unfold own_rng at hr0; omega) (fun q => by have := (own_gt_int (by unfold own_rng at hr0; omega) (by unfold own_rng at hr0; omega)).mp q; unfold own_rng at hr0; omega)) hZ (hw _ (List.mem_of_getElem? (i := 6) rfl)) (hw _ (List.mem_of_getElem? (i := 3) rfl)) (by decide) (by decide)) (g := (mkF m 107 #[.val (.int ax), .val (.int aw), .val (.int ay), .val (.int ah), .val (.long bxp), .second, .val (.long byp), .second, .val (.long p1), .second, .val (.long p2), .second, .val (.long p3), .second, .val (.long p4), .second, .val (.long q1), .second, .val (.long q2), .second, .val (.long q3), .second, .val (.long q4), .second, .val (.ref b3), .unset, .unset, .unset, .unset] [(.double (FP.l2d q4)), (.double (FP.l2d q3)), (.double (FP.l2d q2)), (.double (FP.l2d q1)), (.ref b19), (.ref b19)])) rfl (by rw [hml]; rfl) (Steps.refl _) (a := b19) (argsL := [(.double (FP.l2d q1)), (.double (FP.l2d q2)), (.double (FP.l2d q3)), (.double (FP.l2d q4))]) (rest := [(.ref b19)]) (lenOf own_pd0 rfl) rfl (by show 2 * 0 + _ ≤ _; exact Nat.le_of_eq rfl) (hb hby at_107) (fun _ _ => ⟨rfl, e19, (by decide : 2 + 0 ≤ _), (by decide : 8 + 0 ≤ _)⟩)
  dsimp only [Pt.U, Pt.locs, Pt.cells, Pt.slots] at X34 l34 y34 z34 st34 hQ34
  subst l34 y34 z34
  obtain ⟨rfl, Nq34, Kc31, Ec31, Fc31_xMin, Fc31_xMax, Fc31_yMin, Fc31_yMax⟩ := hQ34
  have N35 := Fr.app N14 Nq34
  have S36 : ∀ t, Steps p.tables e below (T34.setTop (mkF m 110 #[.val (.int ax), .val (.int aw), .val (.int ay), .val (.int ah), .val (.long bxp), .second, .val (.long byp), .second, .val (.long p1), .second, .val (.long p2), .second, .val (.long p3), .second, .val (.long p4), .second, .val (.long q1), .second, .val (.long q2), .second, .val (.long q3), .second, .val (.long q4), .second, .val (.ref b3), .unset, .unset, .unset, .unset] [(.ref b19)])) t → Steps p.tables e below (s₁.setTop (entryFrame m #[(.int ax), (.int aw), (.int ay), (.int ah), (.long bxp), (.long byp)] maxLocals)) t := fun t kt => S33 t (st34.trans kt)
  have F37 := F21.keep Kc31
  have F38 := F22.keep Kc31 (ninS ne_b3_b19 nin0)
  have F39 := F23.keep Kc31 (ninS ne_b3_b19 nin0)
  have F40 := F24.keep Kc31 (ninS ne_b3_b19 nin0)
  have F41 := F25.keep Kc31 (ninS ne_b3_b19 nin0)
  have F42 := A19.keep Kc31
  have K43 : Keep h0 T34.heap [] := K26.trans Kc31 (allS (Or.inr sz_b19) all0)
  have S45 : ∀ t, Steps p.tables e below (T34.setTop (mkF m 116 #[.val (.int ax), .val (.int aw), .val (.int ay), .val (.int ah), .val (.long bxp), .second, .val (.long byp), .second, .val (.long p1), .second, .val (.long p2), .second, .val (.long p3), .second, .val (.long p4), .second, .val (.long q1), .second, .val (.long q2), .second, .val (.long q3), .second, .val (.long q4), .second, .val (.ref b3), .val (.ref b19), .unset, .unset, .unset] [(.long q1), (.long p1)])) t → Steps p.tables e below (s₁.setTop (entryFrame m #[(.int ax), (.int aw), (.int ay), (.int ah), (.long bxp), (.long byp)] maxLocals)) t := fun t kt => by
    refine S36 t ?_
    show Steps p.tables e below (T34.setTop (mkF m 110 #[.val (.int ax), .val (.int aw), .val (.int ay), .val (.int ah), .val (.long bxp), .second, .val (.long byp), .second, .val (.long p1), .second, .val (.long p2), .second, .val (.long p3), .second, .val (.long p4), .second, .val (.long q1), .second, .val (.long q2), .second, .val (.long q3), .second, .val (.long q4), .second, .val (.ref b3), .unset, .unset, .unset, .unset] [(.ref b19)])) t
    refine XS.astore X34.here hx rfl (hb hby at_110) rfl rfl (l' := #[.val (.int ax), .val (.int aw), .val (.int ay), .val (.int ah), .val (.long bxp), .second, .val (.long byp), .second, .val (.long p1), .second, .val (.long p2), .second, .val (.long p3), .second, .val (.long p4), .second, .val (.long q1), .second, .val (.long q2), .second, .val (.long q3), .second, .val (.long q4), .second, .val (.ref b3), .val (.ref b19), .unset, .unset, .unset]) rfl ?_
    show Steps p.tables e below (T34.setTop (mkF m 112 #[.val (.int ax), .val (.int aw), .val (.int ay), .val (.int ah), .val (.long bxp), .second, .val (.long byp), .second, .val (.long p1), .second, .val (.long p2), .second, .val (.long p3), .second, .val (.long p4), .second, .val (.long q1), .second, .val (.long q2), .second, .val (.long q3), .second, .val (.long q4), .second, .val (.ref b3), .val (.ref b19), .unset, .unset, .unset] [])) t
    refine XS.lload X34.here hx rfl (hb hby at_112) rfl ?_
    show Steps p.tables e below (T34.setTop (mkF m 114 #[.val (.int ax), .val (.int aw), .val (.int ay), .val (.int ah), .val (.long bxp), .second, .val (.long byp), .second, .val (.long p1), .second, .val (.long p2), .second, .val (.long p3), .second, .val (.long p4), .second, .val (.long q1), .second, .val (.long q2), .second, .val (.long q3), .second, .val (.long q4), .second, .val (.ref b3), .val (.ref b19), .unset, .unset, .unset] [(.long p1)])) t
    refine XS.lload X34.here hx rfl (hb hby at_114) rfl ?_
    exact kt
  obtain ⟨_, _, ⟨T46, L46, k46, n46⟩, -, X46, ⟨Lc46, hQ46, l46, y46, z46⟩, st46⟩ := Jvm.LawKit.callS X34 hx (y := (⟨"java/lang/Math", "max", "(JJ)J"⟩ : MethodName)) hown (mvT hZ (hw _ (List.mem_of_getElem? (i := 18) rfl))) (mvT hZ (hw _ (List.mem_of_getElem? (i := 19) rfl))) (mvT hZ (hw _ (List.mem_of_getElem? (i := 20) rfl))) (mvT hZ (hw _ (List.mem_of_getElem? (i := 21) rfl))) (by decide) (backOf (W := 0) (own_rm3 l Z a0 hw [] (p1) (q1) T34.heap n0 (Nat.le_trans Z0 K43.1)) hZ (hw _ (List.mem_of_getElem? (i := 21) rfl)) (hw _ (List.mem_of_getElem? (i := 20) rfl)) (by decide) (by decide)) (g := (mkF m 116 #[.val (.int ax), .val (.int aw), .val (.int ay), .val (.int ah), .val (.long bxp), .second, .val (.long byp), .second, .val (.long p1), .second, .val (.long p2), .second, .val (.long p3), .second, .val (.long p4), .second, .val (.long q1), .second, .val (.long q2), .second, .val (.long q3), .second, .val (.long q4), .second, .val (.ref b3), .val (.ref b19), .unset, .unset, .unset] [(.long q1), (.long p1)])) rfl (by rw [hml]; rfl) (argsL := [(.long p1), (.long q1)]) (rest := []) (lenOf own_pd1 rfl) rfl (by show 2 * 0 + _ ≤ _; exact Nat.le_of_eq rfl) (hb hby at_116) (fun _ _ => ⟨rfl, rfl, (by decide : 2 + 0 ≤ _), (by decide : 8 + 0 ≤ _)⟩)
  dsimp only [Pt.U, Pt.locs, Pt.cells, Pt.slots] at X46 l46 y46 z46 st46 hQ46
  subst l46 y46 z46
  obtain ⟨rfl, rfl, eq44⟩ := hQ46
  try rw [List.append_nil] at X46
  have S47 : ∀ t, Steps p.tables e below (T46.setTop (mkF m 119 #[.val (.int ax), .val (.int aw), .val (.int ay), .val (.int ah), .val (.long bxp), .second, .val (.long byp), .second, .val (.long p1), .second, .val (.long p2), .second, .val (.long p3), .second, .val (.long p4), .second, .val (.long q1), .second, .val (.long q2), .second, .val (.long q3), .second, .val (.long q4), .second, .val (.ref b3), .val (.ref b19), .unset, .unset, .unset] [(.long (own_max p1 q1))])) t → Steps p.tables e below (s₁.setTop (entryFrame m #[(.int ax), (.int aw), (.int ay), (.int ah), (.long bxp), (.long byp)] maxLocals)) t := fun t kt => S45 t (st46 _ kt)
  have S49 : ∀ t, Steps p.tables e below (T46.setTop (mkF m 123 #[.val (.int ax), .val (.int aw), .val (.int ay), .val (.int ah), .val (.long bxp), .second, .val (.long byp), .second, .val (.long p1), .second, .val (.long p2), .second, .val (.long p3), .second, .val (.long p4), .second, .val (.long q1), .second, .val (.long q2), .second, .val (.long q3), .second, .val (.long q4), .second, .val (.ref b3), .val (.ref b19), .unset, .unset, .unset] [(.long q2), (.long p2), (.long (own_max p1 q1))])) t → Steps p.tables e below (s₁.setTop (entryFrame m #[(.int ax), (.int aw), (.int ay), (.int ah), (.long bxp), (.long byp)] maxLocals)) t := fun t kt => by
    refine S47 t ?_
    show Steps p.tables e below (T46.setTop (mkF m 119 #[.val (.int ax), .val (.int aw), .val (.int ay), .val (.int ah), .val (.long bxp), .second, .val (.long byp), .second, .val (.long p1), .second, .val (.long p2), .second, .val (.long p3), .second, .val (.long p4), .second, .val (.long q1), .second, .val (.long q2), .second, .val (.long q3), .second, .val (.long q4), .second, .val (.ref b3), .val (.ref b19), .unset, .unset, .unset] [(.long (own_max p1 q1))])) t
    refine XS.lload X46.here hx rfl (hb hby at_119) rfl ?_
    show Steps p.tables e below (T46.setTop (mkF m 121 #[.val (.int ax), .val (.int aw), .val (.int ay), .val (.int ah), .val (.long bxp), .second, .val (.long byp), .second, .val (.long p1), .second, .val (.long p2), .second, .val (.long p3), .second, .val (.long p4), .second, .val (.long q1), .second, .val (.long q2), .second, .val (.long q3), .second, .val (.long q4), .second, .val (.ref b3), .val (.ref b19), .unset, .unset, .unset] [(.long p2), (.long (own_max p1 q1))])) t
    refine XS.lload X46.here hx rfl (hb hby at_121) rfl ?_
    exact kt
  obtain ⟨_, _, ⟨T50, L50, k50, n50⟩, -, X50, ⟨Lc50, hQ50, l50, y50, z50⟩, st50⟩ := Jvm.LawKit.callS X46 hx (y := (⟨"java/lang/Math", "min", "(JJ)J"⟩ : MethodName)) hown (mvT hZ (hw _ (List.mem_of_getElem? (i := 22) rfl))) (mvT hZ (hw _ (List.mem_of_getElem? (i := 23) rfl))) (mvT hZ (hw _ (List.mem_of_getElem? (i := 20) rfl))) (mvT hZ (hw _ (List.mem_of_getElem? (i := 24) rfl))) (by decide) (backOf (W := 2) (own_rm4 l Z a0 hw [] (p2) (q2) T34.heap n0 (Nat.le_trans Z0 K43.1)) hZ (hw _ (List.mem_of_getElem? (i := 24) rfl)) (hw _ (List.mem_of_getElem? (i := 20) rfl)) (by decide) (by decide)) (g := (mkF m 123 #[.val (.int ax), .val (.int aw), .val (.int ay), .val (.int ah), .val (.long bxp), .second, .val (.long byp), .second, .val (.long p1), .second, .val (.long p2), .second, .val (.long p3), .second, .val (.long p4), .second, .val (.long q1), .second, .val (.long q2), .second, .val (.long q3), .second, .val (.long q4), .second, .val (.ref b3), .val (.ref b19), .unset, .unset, .unset] [(.long q2), (.long p2), (.long (own_max p1 q1))])) rfl (by rw [hml]; rfl) (argsL := [(.long p2), (.long q2)]) (rest := [(.long (own_max p1 q1))]) (lenOf own_pd1 rfl) rfl (by show 2 * 0 + _ ≤ _; exact Nat.le_of_eq rfl) (hb hby at_123) (fun _ _ => ⟨rfl, (eq44.trans rfl), (by decide : 2 + 0 ≤ _), (by decide : 8 + 0 ≤ _)⟩)
  dsimp only [Pt.U, Pt.locs, Pt.cells, Pt.slots] at X50 l50 y50 z50 st50 hQ50
  subst l50 y50 z50
  obtain ⟨rfl, rfl, eq48⟩ := hQ50
  try rw [List.append_nil] at X50
  have S51 : ∀ t, Steps p.tables e below (T50.setTop (mkF m 126 #[.val (.int ax), .val (.int aw), .val (.int ay), .val (.int ah), .val (.long bxp), .second, .val (.long byp), .second, .val (.long p1), .second, .val (.long p2), .second, .val (.long p3), .second, .val (.long p4), .second, .val (.long q1), .second, .val (.long q2), .second, .val (.long q3), .second, .val (.long q4), .second, .val (.ref b3), .val (.ref b19), .unset, .unset, .unset] [(.long (own_min p2 q2)), (.long (own_max p1 q1))])) t → Steps p.tables e below (s₁.setTop (entryFrame m #[(.int ax), (.int aw), (.int ay), (.int ah), (.long bxp), (.long byp)] maxLocals)) t := fun t kt => S49 t (st50 _ kt)
  obtain ⟨T52, bx, X52, e52, hr126, S52⟩ : ∃ (T' : State) (bx : Int32), own_like X50 T' ∧ T'.heap = T34.heap ∧ (bx = own_b (decide (¬ own_min p2 q2 < own_max p1 q1))) ∧ (∀ t, Steps p.tables e below (T'.setTop (mkF m 135 #[.val (.int ax), .val (.int aw), .val (.int ay), .val (.int ah), .val (.long bxp), .second, .val (.long byp), .second, .val (.long p1), .second, .val (.long p2), .second, .val (.long p3), .second, .val (.long p4), .second, .val (.long q1), .second, .val (.long q2), .second, .val (.long q3), .second, .val (.long q4), .second, .val (.ref b3), .val (.ref b19), .unset, .unset, .unset] [(.int bx)])) t → Steps p.tables e below (s₁.setTop (entryFrame m #[(.int ax), (.int aw), (.int ay), (.int ah), (.long bxp), (.long byp)] maxLocals)) t) := by
    have S53 : ∀ t, Steps p.tables e below (T50.setTop (mkF m 127 #[.val (.int ax), .val (.int aw), .val (.int ay), .val (.int ah), .val (.long bxp), .second, .val (.long byp), .second, .val (.long p1), .second, .val (.long p2), .second, .val (.long p3), .second, .val (.long p4), .second, .val (.long q1), .second, .val (.long q2), .second, .val (.long q3), .second, .val (.long q4), .second, .val (.ref b3), .val (.ref b19), .unset, .unset, .unset] [(.int (lcmpW (own_max p1 q1) (own_min p2 q2)))])) t → Steps p.tables e below (s₁.setTop (entryFrame m #[(.int ax), (.int aw), (.int ay), (.int ah), (.long bxp), (.long byp)] maxLocals)) t := fun t kt => by
      refine S51 t ?_
      show Steps p.tables e below (T50.setTop (mkF m 126 #[.val (.int ax), .val (.int aw), .val (.int ay), .val (.int ah), .val (.long bxp), .second, .val (.long byp), .second, .val (.long p1), .second, .val (.long p2), .second, .val (.long p3), .second, .val (.long p4), .second, .val (.long q1), .second, .val (.long q2), .second, .val (.long q3), .second, .val (.long q4), .second, .val (.ref b3), .val (.ref b19), .unset, .unset, .unset] [(.long (own_min p2 q2)), (.long (own_max p1 q1))])) t
      refine XS.lcmp X50.here hx rfl (hb hby at_126) rfl ?_
      exact kt
    by_cases hc127 : (own_min p2 q2) < (own_max p1 q1)
    · skip
      have S54 : ∀ t, Steps p.tables e below (T50.setTop (mkF m 135 #[.val (.int ax), .val (.int aw), .val (.int ay), .val (.int ah), .val (.long bxp), .second, .val (.long byp), .second, .val (.long p1), .second, .val (.long p2), .second, .val (.long p3), .second, .val (.long p4), .second, .val (.long q1), .second, .val (.long q2), .second, .val (.long q3), .second, .val (.long q4), .second, .val (.ref b3), .val (.ref b19), .unset, .unset, .unset] [(.int (0 : Int32))])) t → Steps p.tables e below (s₁.setTop (entryFrame m #[(.int ax), (.int aw), (.int ay), (.int ah), (.long bxp), (.long byp)] maxLocals)) t := fun t kt => by
        refine S53 t ?_
        show Steps p.tables e below (T50.setTop (mkF m 127 #[.val (.int ax), .val (.int aw), .val (.int ay), .val (.int ah), .val (.long bxp), .second, .val (.long byp), .second, .val (.long p1), .second, .val (.long p2), .second, .val (.long p3), .second, .val (.long p4), .second, .val (.long q1), .second, .val (.long q2), .second, .val (.long q3), .second, .val (.long q4), .second, .val (.ref b3), .val (.ref b19), .unset, .unset, .unset] [(.int (lcmpW (own_max p1 q1) (own_min p2 q2)))])) t
        refine XS.ifYes X50.here hx rfl (pc0 := 127) (pc' := 134) rfl (hb hby at_127) rfl (own_Llt hc127).2.2.1 (by decide) (by decide) ?_
        show Steps p.tables e below (T50.setTop (mkF m 134 #[.val (.int ax), .val (.int aw), .val (.int ay), .val (.int ah), .val (.long bxp), .second, .val (.long byp), .second, .val (.long p1), .second, .val (.long p2), .second, .val (.long p3), .second, .val (.long p4), .second, .val (.long q1), .second, .val (.long q2), .second, .val (.long q3), .second, .val (.long q4), .second, .val (.ref b3), .val (.ref b19), .unset, .unset, .unset] [])) t
        refine XS.iconst X50.here hx rfl (hb hby at_134) ?_
        exact kt
      exact ⟨T50, ((0 : Int32)), X50, eq48, (own_bf (by simp only [decide_true, decide_false, not_true_eq_false, not_false_eq_true, and_true, true_and, and_false, false_and, and_self, or_true, true_or, or_false, false_or, or_self, if_true, if_false, Bool.not_true, Bool.not_false, Bool.and_true, Bool.true_and, Bool.and_false, Bool.false_and, *])), S54⟩
    · skip
      have S55 : ∀ t, Steps p.tables e below (T50.setTop (mkF m 135 #[.val (.int ax), .val (.int aw), .val (.int ay), .val (.int ah), .val (.long bxp), .second, .val (.long byp), .second, .val (.long p1), .second, .val (.long p2), .second, .val (.long p3), .second, .val (.long p4), .second, .val (.long q1), .second, .val (.long q2), .second, .val (.long q3), .second, .val (.long q4), .second, .val (.ref b3), .val (.ref b19), .unset, .unset, .unset] [(.int (1 : Int32))])) t → Steps p.tables e below (s₁.setTop (entryFrame m #[(.int ax), (.int aw), (.int ay), (.int ah), (.long bxp), (.long byp)] maxLocals)) t := fun t kt => by
        refine S53 t ?_
        show Steps p.tables e below (T50.setTop (mkF m 127 #[.val (.int ax), .val (.int aw), .val (.int ay), .val (.int ah), .val (.long bxp), .second, .val (.long byp), .second, .val (.long p1), .second, .val (.long p2), .second, .val (.long p3), .second, .val (.long p4), .second, .val (.long q1), .second, .val (.long q2), .second, .val (.long q3), .second, .val (.long q4), .second, .val (.ref b3), .val (.ref b19), .unset, .unset, .unset] [(.int (lcmpW (own_max p1 q1) (own_min p2 q2)))])) t
        refine XS.ifNo X50.here hx rfl (hb hby at_127) rfl (own_Lnl hc127).2.2.1 ?_
        show Steps p.tables e below (T50.setTop (mkF m 130 #[.val (.int ax), .val (.int aw), .val (.int ay), .val (.int ah), .val (.long bxp), .second, .val (.long byp), .second, .val (.long p1), .second, .val (.long p2), .second, .val (.long p3), .second, .val (.long p4), .second, .val (.long q1), .second, .val (.long q2), .second, .val (.long q3), .second, .val (.long q4), .second, .val (.ref b3), .val (.ref b19), .unset, .unset, .unset] [])) t
        refine XS.iconst X50.here hx rfl (hb hby at_130) ?_
        show Steps p.tables e below (T50.setTop (mkF m 131 #[.val (.int ax), .val (.int aw), .val (.int ay), .val (.int ah), .val (.long bxp), .second, .val (.long byp), .second, .val (.long p1), .second, .val (.long p2), .second, .val (.long p3), .second, .val (.long p4), .second, .val (.long q1), .second, .val (.long q2), .second, .val (.long q3), .second, .val (.long q4), .second, .val (.ref b3), .val (.ref b19), .unset, .unset, .unset] [(.int (1 : Int32))])) t
        refine XS.goto X50.here hx rfl (pc0 := 131) (pc' := 135) rfl (hb hby at_131) (by decide) (by decide) ?_
        exact kt
      exact ⟨T50, ((1 : Int32)), X50, eq48, (own_bt (by simp only [decide_true, decide_false, not_true_eq_false, not_false_eq_true, and_true, true_and, and_false, false_and, and_self, or_true, true_or, or_false, false_or, or_self, if_true, if_false, Bool.not_true, Bool.not_false, Bool.and_true, Bool.true_and, Bool.and_false, Bool.false_and, *])), S55⟩
  have S57 : ∀ t, Steps p.tables e below (T52.setTop (mkF m 141 #[.val (.int ax), .val (.int aw), .val (.int ay), .val (.int ah), .val (.long bxp), .second, .val (.long byp), .second, .val (.long p1), .second, .val (.long p2), .second, .val (.long p3), .second, .val (.long p4), .second, .val (.long q1), .second, .val (.long q2), .second, .val (.long q3), .second, .val (.long q4), .second, .val (.ref b3), .val (.ref b19), .val (.int bx), .unset, .unset] [(.long q3), (.long p3)])) t → Steps p.tables e below (s₁.setTop (entryFrame m #[(.int ax), (.int aw), (.int ay), (.int ah), (.long bxp), (.long byp)] maxLocals)) t := fun t kt => by
    refine S52 t ?_
    show Steps p.tables e below (T52.setTop (mkF m 135 #[.val (.int ax), .val (.int aw), .val (.int ay), .val (.int ah), .val (.long bxp), .second, .val (.long byp), .second, .val (.long p1), .second, .val (.long p2), .second, .val (.long p3), .second, .val (.long p4), .second, .val (.long q1), .second, .val (.long q2), .second, .val (.long q3), .second, .val (.long q4), .second, .val (.ref b3), .val (.ref b19), .unset, .unset, .unset] [(.int bx)])) t
    refine XS.istore X52.here hx rfl (hb hby at_135) rfl (l' := #[.val (.int ax), .val (.int aw), .val (.int ay), .val (.int ah), .val (.long bxp), .second, .val (.long byp), .second, .val (.long p1), .second, .val (.long p2), .second, .val (.long p3), .second, .val (.long p4), .second, .val (.long q1), .second, .val (.long q2), .second, .val (.long q3), .second, .val (.long q4), .second, .val (.ref b3), .val (.ref b19), .val (.int bx), .unset, .unset]) rfl ?_
    show Steps p.tables e below (T52.setTop (mkF m 137 #[.val (.int ax), .val (.int aw), .val (.int ay), .val (.int ah), .val (.long bxp), .second, .val (.long byp), .second, .val (.long p1), .second, .val (.long p2), .second, .val (.long p3), .second, .val (.long p4), .second, .val (.long q1), .second, .val (.long q2), .second, .val (.long q3), .second, .val (.long q4), .second, .val (.ref b3), .val (.ref b19), .val (.int bx), .unset, .unset] [])) t
    refine XS.lload X52.here hx rfl (hb hby at_137) rfl ?_
    show Steps p.tables e below (T52.setTop (mkF m 139 #[.val (.int ax), .val (.int aw), .val (.int ay), .val (.int ah), .val (.long bxp), .second, .val (.long byp), .second, .val (.long p1), .second, .val (.long p2), .second, .val (.long p3), .second, .val (.long p4), .second, .val (.long q1), .second, .val (.long q2), .second, .val (.long q3), .second, .val (.long q4), .second, .val (.ref b3), .val (.ref b19), .val (.int bx), .unset, .unset] [(.long p3)])) t
    refine XS.lload X52.here hx rfl (hb hby at_139) rfl ?_
    exact kt
  obtain ⟨_, _, ⟨T58, L58, k58, n58⟩, -, X58, ⟨Lc58, hQ58, l58, y58, z58⟩, st58⟩ := Jvm.LawKit.callS X52 hx (y := (⟨"java/lang/Math", "max", "(JJ)J"⟩ : MethodName)) hown (mvT hZ (hw _ (List.mem_of_getElem? (i := 18) rfl))) (mvT hZ (hw _ (List.mem_of_getElem? (i := 19) rfl))) (mvT hZ (hw _ (List.mem_of_getElem? (i := 20) rfl))) (mvT hZ (hw _ (List.mem_of_getElem? (i := 21) rfl))) (by decide) (backOf (W := 0) (own_rm3 l Z a0 hw [] (p3) (q3) T34.heap n0 (Nat.le_trans Z0 K43.1)) hZ (hw _ (List.mem_of_getElem? (i := 21) rfl)) (hw _ (List.mem_of_getElem? (i := 20) rfl)) (by decide) (by decide)) (g := (mkF m 141 #[.val (.int ax), .val (.int aw), .val (.int ay), .val (.int ah), .val (.long bxp), .second, .val (.long byp), .second, .val (.long p1), .second, .val (.long p2), .second, .val (.long p3), .second, .val (.long p4), .second, .val (.long q1), .second, .val (.long q2), .second, .val (.long q3), .second, .val (.long q4), .second, .val (.ref b3), .val (.ref b19), .val (.int bx), .unset, .unset] [(.long q3), (.long p3)])) rfl (by rw [hml]; rfl) (argsL := [(.long p3), (.long q3)]) (rest := []) (lenOf own_pd1 rfl) rfl (by show 2 * 0 + _ ≤ _; exact Nat.le_of_eq rfl) (hb hby at_141) (fun _ _ => ⟨rfl, e52, (by decide : 2 + 0 ≤ _), (by decide : 8 + 0 ≤ _)⟩)
  dsimp only [Pt.U, Pt.locs, Pt.cells, Pt.slots] at X58 l58 y58 z58 st58 hQ58
  subst l58 y58 z58
  obtain ⟨rfl, rfl, eq56⟩ := hQ58
  try rw [List.append_nil] at X58
  have S59 : ∀ t, Steps p.tables e below (T58.setTop (mkF m 144 #[.val (.int ax), .val (.int aw), .val (.int ay), .val (.int ah), .val (.long bxp), .second, .val (.long byp), .second, .val (.long p1), .second, .val (.long p2), .second, .val (.long p3), .second, .val (.long p4), .second, .val (.long q1), .second, .val (.long q2), .second, .val (.long q3), .second, .val (.long q4), .second, .val (.ref b3), .val (.ref b19), .val (.int bx), .unset, .unset] [(.long (own_max p3 q3))])) t → Steps p.tables e below (s₁.setTop (entryFrame m #[(.int ax), (.int aw), (.int ay), (.int ah), (.long bxp), (.long byp)] maxLocals)) t := fun t kt => S57 t (st58 _ kt)
  have S61 : ∀ t, Steps p.tables e below (T58.setTop (mkF m 148 #[.val (.int ax), .val (.int aw), .val (.int ay), .val (.int ah), .val (.long bxp), .second, .val (.long byp), .second, .val (.long p1), .second, .val (.long p2), .second, .val (.long p3), .second, .val (.long p4), .second, .val (.long q1), .second, .val (.long q2), .second, .val (.long q3), .second, .val (.long q4), .second, .val (.ref b3), .val (.ref b19), .val (.int bx), .unset, .unset] [(.long q4), (.long p4), (.long (own_max p3 q3))])) t → Steps p.tables e below (s₁.setTop (entryFrame m #[(.int ax), (.int aw), (.int ay), (.int ah), (.long bxp), (.long byp)] maxLocals)) t := fun t kt => by
    refine S59 t ?_
    show Steps p.tables e below (T58.setTop (mkF m 144 #[.val (.int ax), .val (.int aw), .val (.int ay), .val (.int ah), .val (.long bxp), .second, .val (.long byp), .second, .val (.long p1), .second, .val (.long p2), .second, .val (.long p3), .second, .val (.long p4), .second, .val (.long q1), .second, .val (.long q2), .second, .val (.long q3), .second, .val (.long q4), .second, .val (.ref b3), .val (.ref b19), .val (.int bx), .unset, .unset] [(.long (own_max p3 q3))])) t
    refine XS.lload X58.here hx rfl (hb hby at_144) rfl ?_
    show Steps p.tables e below (T58.setTop (mkF m 146 #[.val (.int ax), .val (.int aw), .val (.int ay), .val (.int ah), .val (.long bxp), .second, .val (.long byp), .second, .val (.long p1), .second, .val (.long p2), .second, .val (.long p3), .second, .val (.long p4), .second, .val (.long q1), .second, .val (.long q2), .second, .val (.long q3), .second, .val (.long q4), .second, .val (.ref b3), .val (.ref b19), .val (.int bx), .unset, .unset] [(.long p4), (.long (own_max p3 q3))])) t
    refine XS.lload X58.here hx rfl (hb hby at_146) rfl ?_
    exact kt
  obtain ⟨_, _, ⟨T62, L62, k62, n62⟩, -, X62, ⟨Lc62, hQ62, l62, y62, z62⟩, st62⟩ := Jvm.LawKit.callS X58 hx (y := (⟨"java/lang/Math", "min", "(JJ)J"⟩ : MethodName)) hown (mvT hZ (hw _ (List.mem_of_getElem? (i := 22) rfl))) (mvT hZ (hw _ (List.mem_of_getElem? (i := 23) rfl))) (mvT hZ (hw _ (List.mem_of_getElem? (i := 20) rfl))) (mvT hZ (hw _ (List.mem_of_getElem? (i := 24) rfl))) (by decide) (backOf (W := 2) (own_rm4 l Z a0 hw [] (p4) (q4) T34.heap n0 (Nat.le_trans Z0 K43.1)) hZ (hw _ (List.mem_of_getElem? (i := 24) rfl)) (hw _ (List.mem_of_getElem? (i := 20) rfl)) (by decide) (by decide)) (g := (mkF m 148 #[.val (.int ax), .val (.int aw), .val (.int ay), .val (.int ah), .val (.long bxp), .second, .val (.long byp), .second, .val (.long p1), .second, .val (.long p2), .second, .val (.long p3), .second, .val (.long p4), .second, .val (.long q1), .second, .val (.long q2), .second, .val (.long q3), .second, .val (.long q4), .second, .val (.ref b3), .val (.ref b19), .val (.int bx), .unset, .unset] [(.long q4), (.long p4), (.long (own_max p3 q3))])) rfl (by rw [hml]; rfl) (argsL := [(.long p4), (.long q4)]) (rest := [(.long (own_max p3 q3))]) (lenOf own_pd1 rfl) rfl (by show 2 * 0 + _ ≤ _; exact Nat.le_of_eq rfl) (hb hby at_148) (fun _ _ => ⟨rfl, eq56, (by decide : 2 + 0 ≤ _), (by decide : 8 + 0 ≤ _)⟩)
  dsimp only [Pt.U, Pt.locs, Pt.cells, Pt.slots] at X62 l62 y62 z62 st62 hQ62
  subst l62 y62 z62
  obtain ⟨rfl, rfl, eq60⟩ := hQ62
  try rw [List.append_nil] at X62
  have S63 : ∀ t, Steps p.tables e below (T62.setTop (mkF m 151 #[.val (.int ax), .val (.int aw), .val (.int ay), .val (.int ah), .val (.long bxp), .second, .val (.long byp), .second, .val (.long p1), .second, .val (.long p2), .second, .val (.long p3), .second, .val (.long p4), .second, .val (.long q1), .second, .val (.long q2), .second, .val (.long q3), .second, .val (.long q4), .second, .val (.ref b3), .val (.ref b19), .val (.int bx), .unset, .unset] [(.long (own_min p4 q4)), (.long (own_max p3 q3))])) t → Steps p.tables e below (s₁.setTop (entryFrame m #[(.int ax), (.int aw), (.int ay), (.int ah), (.long bxp), (.long byp)] maxLocals)) t := fun t kt => S61 t (st62 _ kt)
  obtain ⟨T64, by_, X64, e64, hr151, S64⟩ : ∃ (T' : State) (by_ : Int32), own_like X62 T' ∧ T'.heap = T34.heap ∧ (by_ = own_b (decide (¬ own_min p4 q4 < own_max p3 q3))) ∧ (∀ t, Steps p.tables e below (T'.setTop (mkF m 160 #[.val (.int ax), .val (.int aw), .val (.int ay), .val (.int ah), .val (.long bxp), .second, .val (.long byp), .second, .val (.long p1), .second, .val (.long p2), .second, .val (.long p3), .second, .val (.long p4), .second, .val (.long q1), .second, .val (.long q2), .second, .val (.long q3), .second, .val (.long q4), .second, .val (.ref b3), .val (.ref b19), .val (.int bx), .unset, .unset] [(.int by_)])) t → Steps p.tables e below (s₁.setTop (entryFrame m #[(.int ax), (.int aw), (.int ay), (.int ah), (.long bxp), (.long byp)] maxLocals)) t) := by
    have S65 : ∀ t, Steps p.tables e below (T62.setTop (mkF m 152 #[.val (.int ax), .val (.int aw), .val (.int ay), .val (.int ah), .val (.long bxp), .second, .val (.long byp), .second, .val (.long p1), .second, .val (.long p2), .second, .val (.long p3), .second, .val (.long p4), .second, .val (.long q1), .second, .val (.long q2), .second, .val (.long q3), .second, .val (.long q4), .second, .val (.ref b3), .val (.ref b19), .val (.int bx), .unset, .unset] [(.int (lcmpW (own_max p3 q3) (own_min p4 q4)))])) t → Steps p.tables e below (s₁.setTop (entryFrame m #[(.int ax), (.int aw), (.int ay), (.int ah), (.long bxp), (.long byp)] maxLocals)) t := fun t kt => by
      refine S63 t ?_
      show Steps p.tables e below (T62.setTop (mkF m 151 #[.val (.int ax), .val (.int aw), .val (.int ay), .val (.int ah), .val (.long bxp), .second, .val (.long byp), .second, .val (.long p1), .second, .val (.long p2), .second, .val (.long p3), .second, .val (.long p4), .second, .val (.long q1), .second, .val (.long q2), .second, .val (.long q3), .second, .val (.long q4), .second, .val (.ref b3), .val (.ref b19), .val (.int bx), .unset, .unset] [(.long (own_min p4 q4)), (.long (own_max p3 q3))])) t
      refine XS.lcmp X62.here hx rfl (hb hby at_151) rfl ?_
      exact kt
    by_cases hc152 : (own_min p4 q4) < (own_max p3 q3)
    · skip
      have S66 : ∀ t, Steps p.tables e below (T62.setTop (mkF m 160 #[.val (.int ax), .val (.int aw), .val (.int ay), .val (.int ah), .val (.long bxp), .second, .val (.long byp), .second, .val (.long p1), .second, .val (.long p2), .second, .val (.long p3), .second, .val (.long p4), .second, .val (.long q1), .second, .val (.long q2), .second, .val (.long q3), .second, .val (.long q4), .second, .val (.ref b3), .val (.ref b19), .val (.int bx), .unset, .unset] [(.int (0 : Int32))])) t → Steps p.tables e below (s₁.setTop (entryFrame m #[(.int ax), (.int aw), (.int ay), (.int ah), (.long bxp), (.long byp)] maxLocals)) t := fun t kt => by
        refine S65 t ?_
        show Steps p.tables e below (T62.setTop (mkF m 152 #[.val (.int ax), .val (.int aw), .val (.int ay), .val (.int ah), .val (.long bxp), .second, .val (.long byp), .second, .val (.long p1), .second, .val (.long p2), .second, .val (.long p3), .second, .val (.long p4), .second, .val (.long q1), .second, .val (.long q2), .second, .val (.long q3), .second, .val (.long q4), .second, .val (.ref b3), .val (.ref b19), .val (.int bx), .unset, .unset] [(.int (lcmpW (own_max p3 q3) (own_min p4 q4)))])) t
        refine XS.ifYes X62.here hx rfl (pc0 := 152) (pc' := 159) rfl (hb hby at_152) rfl (own_Llt hc152).2.2.1 (by decide) (by decide) ?_
        show Steps p.tables e below (T62.setTop (mkF m 159 #[.val (.int ax), .val (.int aw), .val (.int ay), .val (.int ah), .val (.long bxp), .second, .val (.long byp), .second, .val (.long p1), .second, .val (.long p2), .second, .val (.long p3), .second, .val (.long p4), .second, .val (.long q1), .second, .val (.long q2), .second, .val (.long q3), .second, .val (.long q4), .second, .val (.ref b3), .val (.ref b19), .val (.int bx), .unset, .unset] [])) t
        refine XS.iconst X62.here hx rfl (hb hby at_159) ?_
        exact kt
      exact ⟨T62, ((0 : Int32)), X62, eq60, (own_bf (by simp only [decide_true, decide_false, not_true_eq_false, not_false_eq_true, and_true, true_and, and_false, false_and, and_self, or_true, true_or, or_false, false_or, or_self, if_true, if_false, Bool.not_true, Bool.not_false, Bool.and_true, Bool.true_and, Bool.and_false, Bool.false_and, *])), S66⟩
    · skip
      have S67 : ∀ t, Steps p.tables e below (T62.setTop (mkF m 160 #[.val (.int ax), .val (.int aw), .val (.int ay), .val (.int ah), .val (.long bxp), .second, .val (.long byp), .second, .val (.long p1), .second, .val (.long p2), .second, .val (.long p3), .second, .val (.long p4), .second, .val (.long q1), .second, .val (.long q2), .second, .val (.long q3), .second, .val (.long q4), .second, .val (.ref b3), .val (.ref b19), .val (.int bx), .unset, .unset] [(.int (1 : Int32))])) t → Steps p.tables e below (s₁.setTop (entryFrame m #[(.int ax), (.int aw), (.int ay), (.int ah), (.long bxp), (.long byp)] maxLocals)) t := fun t kt => by
        refine S65 t ?_
        show Steps p.tables e below (T62.setTop (mkF m 152 #[.val (.int ax), .val (.int aw), .val (.int ay), .val (.int ah), .val (.long bxp), .second, .val (.long byp), .second, .val (.long p1), .second, .val (.long p2), .second, .val (.long p3), .second, .val (.long p4), .second, .val (.long q1), .second, .val (.long q2), .second, .val (.long q3), .second, .val (.long q4), .second, .val (.ref b3), .val (.ref b19), .val (.int bx), .unset, .unset] [(.int (lcmpW (own_max p3 q3) (own_min p4 q4)))])) t
        refine XS.ifNo X62.here hx rfl (hb hby at_152) rfl (own_Lnl hc152).2.2.1 ?_
        show Steps p.tables e below (T62.setTop (mkF m 155 #[.val (.int ax), .val (.int aw), .val (.int ay), .val (.int ah), .val (.long bxp), .second, .val (.long byp), .second, .val (.long p1), .second, .val (.long p2), .second, .val (.long p3), .second, .val (.long p4), .second, .val (.long q1), .second, .val (.long q2), .second, .val (.long q3), .second, .val (.long q4), .second, .val (.ref b3), .val (.ref b19), .val (.int bx), .unset, .unset] [])) t
        refine XS.iconst X62.here hx rfl (hb hby at_155) ?_
        show Steps p.tables e below (T62.setTop (mkF m 156 #[.val (.int ax), .val (.int aw), .val (.int ay), .val (.int ah), .val (.long bxp), .second, .val (.long byp), .second, .val (.long p1), .second, .val (.long p2), .second, .val (.long p3), .second, .val (.long p4), .second, .val (.long q1), .second, .val (.long q2), .second, .val (.long q3), .second, .val (.long q4), .second, .val (.ref b3), .val (.ref b19), .val (.int bx), .unset, .unset] [(.int (1 : Int32))])) t
        refine XS.goto X62.here hx rfl (pc0 := 156) (pc' := 160) rfl (hb hby at_156) (by decide) (by decide) ?_
        exact kt
      exact ⟨T62, ((1 : Int32)), X62, eq60, (own_bt (by simp only [decide_true, decide_false, not_true_eq_false, not_false_eq_true, and_true, true_and, and_false, false_and, and_self, or_true, true_or, or_false, false_or, or_self, if_true, if_false, Bool.not_true, Bool.not_false, Bool.and_true, Bool.true_and, Bool.and_false, Bool.false_and, *])), S67⟩
  have S68 : ∀ t, Steps p.tables e below (T64.setTop (mkF m 162 #[.val (.int ax), .val (.int aw), .val (.int ay), .val (.int ah), .val (.long bxp), .second, .val (.long byp), .second, .val (.long p1), .second, .val (.long p2), .second, .val (.long p3), .second, .val (.long p4), .second, .val (.long q1), .second, .val (.long q2), .second, .val (.long q3), .second, .val (.long q4), .second, .val (.ref b3), .val (.ref b19), .val (.int bx), .val (.int by_), .unset] [])) t → Steps p.tables e below (s₁.setTop (entryFrame m #[(.int ax), (.int aw), (.int ay), (.int ah), (.long bxp), (.long byp)] maxLocals)) t := fun t kt => by
    refine S64 t ?_
    show Steps p.tables e below (T64.setTop (mkF m 160 #[.val (.int ax), .val (.int aw), .val (.int ay), .val (.int ah), .val (.long bxp), .second, .val (.long byp), .second, .val (.long p1), .second, .val (.long p2), .second, .val (.long p3), .second, .val (.long p4), .second, .val (.long q1), .second, .val (.long q2), .second, .val (.long q3), .second, .val (.long q4), .second, .val (.ref b3), .val (.ref b19), .val (.int bx), .unset, .unset] [(.int by_)])) t
    refine XS.istore X64.here hx rfl (hb hby at_160) rfl (l' := #[.val (.int ax), .val (.int aw), .val (.int ay), .val (.int ah), .val (.long bxp), .second, .val (.long byp), .second, .val (.long p1), .second, .val (.long p2), .second, .val (.long p3), .second, .val (.long p4), .second, .val (.long q1), .second, .val (.long q2), .second, .val (.long q3), .second, .val (.long q4), .second, .val (.ref b3), .val (.ref b19), .val (.int bx), .val (.int by_), .unset]) rfl ?_
    exact kt
  obtain ⟨T69, ex, X69, e69, hr162, S69⟩ : ∃ (T' : State) (ex : Int32), own_like X64 T' ∧ T'.heap = T34.heap ∧ (ex = own_b (decide (¬ own_min p2 q2 < own_max p1 q1) && decide (¬ own_min p4 q4 < own_max p3 q3))) ∧ (∀ t, Steps p.tables e below (T'.setTop (mkF m 177 #[.val (.int ax), .val (.int aw), .val (.int ay), .val (.int ah), .val (.long bxp), .second, .val (.long byp), .second, .val (.long p1), .second, .val (.long p2), .second, .val (.long p3), .second, .val (.long p4), .second, .val (.long q1), .second, .val (.long q2), .second, .val (.long q3), .second, .val (.long q4), .second, .val (.ref b3), .val (.ref b19), .val (.int bx), .val (.int by_), .unset] [(.int ex)])) t → Steps p.tables e below (s₁.setTop (entryFrame m #[(.int ax), (.int aw), (.int ay), (.int ah), (.long bxp), (.long byp)] maxLocals)) t) := by
    have S70 : ∀ t, Steps p.tables e below (T64.setTop (mkF m 164 #[.val (.int ax), .val (.int aw), .val (.int ay), .val (.int ah), .val (.long bxp), .second, .val (.long byp), .second, .val (.long p1), .second, .val (.long p2), .second, .val (.long p3), .second, .val (.long p4), .second, .val (.long q1), .second, .val (.long q2), .second, .val (.long q3), .second, .val (.long q4), .second, .val (.ref b3), .val (.ref b19), .val (.int bx), .val (.int by_), .unset] [(.int bx)])) t → Steps p.tables e below (s₁.setTop (entryFrame m #[(.int ax), (.int aw), (.int ay), (.int ah), (.long bxp), (.long byp)] maxLocals)) t := fun t kt => by
      refine S68 t ?_
      show Steps p.tables e below (T64.setTop (mkF m 162 #[.val (.int ax), .val (.int aw), .val (.int ay), .val (.int ah), .val (.long bxp), .second, .val (.long byp), .second, .val (.long p1), .second, .val (.long p2), .second, .val (.long p3), .second, .val (.long p4), .second, .val (.long q1), .second, .val (.long q2), .second, .val (.long q3), .second, .val (.long q4), .second, .val (.ref b3), .val (.ref b19), .val (.int bx), .val (.int by_), .unset] [])) t
      refine XS.iload X64.here hx rfl (hb hby at_162) rfl ?_
      exact kt
    by_cases hc164 : bx = (0 : Int32)
    · skip
      have S71 : ∀ t, Steps p.tables e below (T64.setTop (mkF m 177 #[.val (.int ax), .val (.int aw), .val (.int ay), .val (.int ah), .val (.long bxp), .second, .val (.long byp), .second, .val (.long p1), .second, .val (.long p2), .second, .val (.long p3), .second, .val (.long p4), .second, .val (.long q1), .second, .val (.long q2), .second, .val (.long q3), .second, .val (.long q4), .second, .val (.ref b3), .val (.ref b19), .val (.int bx), .val (.int by_), .unset] [(.int (0 : Int32))])) t → Steps p.tables e below (s₁.setTop (entryFrame m #[(.int ax), (.int aw), (.int ay), (.int ah), (.long bxp), (.long byp)] maxLocals)) t := fun t kt => by
        refine S70 t ?_
        show Steps p.tables e below (T64.setTop (mkF m 164 #[.val (.int ax), .val (.int aw), .val (.int ay), .val (.int ah), .val (.long bxp), .second, .val (.long byp), .second, .val (.long p1), .second, .val (.long p2), .second, .val (.long p3), .second, .val (.long p4), .second, .val (.long q1), .second, .val (.long q2), .second, .val (.long q3), .second, .val (.long q4), .second, .val (.ref b3), .val (.ref b19), .val (.int bx), .val (.int by_), .unset] [(.int bx)])) t
        refine XS.ifYes X64.here hx rfl (pc0 := 164) (pc' := 176) rfl (hb hby at_164) rfl ((if0 _ _).trans (teq hc164).1) (by decide) (by decide) ?_
        show Steps p.tables e below (T64.setTop (mkF m 176 #[.val (.int ax), .val (.int aw), .val (.int ay), .val (.int ah), .val (.long bxp), .second, .val (.long byp), .second, .val (.long p1), .second, .val (.long p2), .second, .val (.long p3), .second, .val (.long p4), .second, .val (.long q1), .second, .val (.long q2), .second, .val (.long q3), .second, .val (.long q4), .second, .val (.ref b3), .val (.ref b19), .val (.int bx), .val (.int by_), .unset] [])) t
        refine XS.iconst X64.here hx rfl (hb hby at_176) ?_
        exact kt
      exact ⟨T64, ((0 : Int32)), X64, e64, (own_bf (by simp only [hr126, hr151, own_b0, decide_eq_false_iff_not, Decidable.not_not] at *; simp [*])), S71⟩
    · skip
      have S72 : ∀ t, Steps p.tables e below (T64.setTop (mkF m 169 #[.val (.int ax), .val (.int aw), .val (.int ay), .val (.int ah), .val (.long bxp), .second, .val (.long byp), .second, .val (.long p1), .second, .val (.long p2), .second, .val (.long p3), .second, .val (.long p4), .second, .val (.long q1), .second, .val (.long q2), .second, .val (.long q3), .second, .val (.long q4), .second, .val (.ref b3), .val (.ref b19), .val (.int bx), .val (.int by_), .unset] [(.int by_)])) t → Steps p.tables e below (s₁.setTop (entryFrame m #[(.int ax), (.int aw), (.int ay), (.int ah), (.long bxp), (.long byp)] maxLocals)) t := fun t kt => by
        refine S70 t ?_
        show Steps p.tables e below (T64.setTop (mkF m 164 #[.val (.int ax), .val (.int aw), .val (.int ay), .val (.int ah), .val (.long bxp), .second, .val (.long byp), .second, .val (.long p1), .second, .val (.long p2), .second, .val (.long p3), .second, .val (.long p4), .second, .val (.long q1), .second, .val (.long q2), .second, .val (.long q3), .second, .val (.long q4), .second, .val (.ref b3), .val (.ref b19), .val (.int bx), .val (.int by_), .unset] [(.int bx)])) t
        refine XS.ifNo X64.here hx rfl (hb hby at_164) rfl ((if0 _ _).trans (feq hc164).1) ?_
        show Steps p.tables e below (T64.setTop (mkF m 167 #[.val (.int ax), .val (.int aw), .val (.int ay), .val (.int ah), .val (.long bxp), .second, .val (.long byp), .second, .val (.long p1), .second, .val (.long p2), .second, .val (.long p3), .second, .val (.long p4), .second, .val (.long q1), .second, .val (.long q2), .second, .val (.long q3), .second, .val (.long q4), .second, .val (.ref b3), .val (.ref b19), .val (.int bx), .val (.int by_), .unset] [])) t
        refine XS.iload X64.here hx rfl (hb hby at_167) rfl ?_
        exact kt
      by_cases hc169 : by_ = (0 : Int32)
      · skip
        have S73 : ∀ t, Steps p.tables e below (T64.setTop (mkF m 177 #[.val (.int ax), .val (.int aw), .val (.int ay), .val (.int ah), .val (.long bxp), .second, .val (.long byp), .second, .val (.long p1), .second, .val (.long p2), .second, .val (.long p3), .second, .val (.long p4), .second, .val (.long q1), .second, .val (.long q2), .second, .val (.long q3), .second, .val (.long q4), .second, .val (.ref b3), .val (.ref b19), .val (.int bx), .val (.int by_), .unset] [(.int (0 : Int32))])) t → Steps p.tables e below (s₁.setTop (entryFrame m #[(.int ax), (.int aw), (.int ay), (.int ah), (.long bxp), (.long byp)] maxLocals)) t := fun t kt => by
          refine S72 t ?_
          show Steps p.tables e below (T64.setTop (mkF m 169 #[.val (.int ax), .val (.int aw), .val (.int ay), .val (.int ah), .val (.long bxp), .second, .val (.long byp), .second, .val (.long p1), .second, .val (.long p2), .second, .val (.long p3), .second, .val (.long p4), .second, .val (.long q1), .second, .val (.long q2), .second, .val (.long q3), .second, .val (.long q4), .second, .val (.ref b3), .val (.ref b19), .val (.int bx), .val (.int by_), .unset] [(.int by_)])) t
          refine XS.ifYes X64.here hx rfl (pc0 := 169) (pc' := 176) rfl (hb hby at_169) rfl ((if0 _ _).trans (teq hc169).1) (by decide) (by decide) ?_
          show Steps p.tables e below (T64.setTop (mkF m 176 #[.val (.int ax), .val (.int aw), .val (.int ay), .val (.int ah), .val (.long bxp), .second, .val (.long byp), .second, .val (.long p1), .second, .val (.long p2), .second, .val (.long p3), .second, .val (.long p4), .second, .val (.long q1), .second, .val (.long q2), .second, .val (.long q3), .second, .val (.long q4), .second, .val (.ref b3), .val (.ref b19), .val (.int bx), .val (.int by_), .unset] [])) t
          refine XS.iconst X64.here hx rfl (hb hby at_176) ?_
          exact kt
        exact ⟨T64, ((0 : Int32)), X64, e64, (own_bf (by simp only [hr126, hr151, own_b0, decide_eq_false_iff_not, Decidable.not_not] at *; simp [*])), S73⟩
      · skip
        have S74 : ∀ t, Steps p.tables e below (T64.setTop (mkF m 177 #[.val (.int ax), .val (.int aw), .val (.int ay), .val (.int ah), .val (.long bxp), .second, .val (.long byp), .second, .val (.long p1), .second, .val (.long p2), .second, .val (.long p3), .second, .val (.long p4), .second, .val (.long q1), .second, .val (.long q2), .second, .val (.long q3), .second, .val (.long q4), .second, .val (.ref b3), .val (.ref b19), .val (.int bx), .val (.int by_), .unset] [(.int (1 : Int32))])) t → Steps p.tables e below (s₁.setTop (entryFrame m #[(.int ax), (.int aw), (.int ay), (.int ah), (.long bxp), (.long byp)] maxLocals)) t := fun t kt => by
          refine S72 t ?_
          show Steps p.tables e below (T64.setTop (mkF m 169 #[.val (.int ax), .val (.int aw), .val (.int ay), .val (.int ah), .val (.long bxp), .second, .val (.long byp), .second, .val (.long p1), .second, .val (.long p2), .second, .val (.long p3), .second, .val (.long p4), .second, .val (.long q1), .second, .val (.long q2), .second, .val (.long q3), .second, .val (.long q4), .second, .val (.ref b3), .val (.ref b19), .val (.int bx), .val (.int by_), .unset] [(.int by_)])) t
          refine XS.ifNo X64.here hx rfl (hb hby at_169) rfl ((if0 _ _).trans (feq hc169).1) ?_
          show Steps p.tables e below (T64.setTop (mkF m 172 #[.val (.int ax), .val (.int aw), .val (.int ay), .val (.int ah), .val (.long bxp), .second, .val (.long byp), .second, .val (.long p1), .second, .val (.long p2), .second, .val (.long p3), .second, .val (.long p4), .second, .val (.long q1), .second, .val (.long q2), .second, .val (.long q3), .second, .val (.long q4), .second, .val (.ref b3), .val (.ref b19), .val (.int bx), .val (.int by_), .unset] [])) t
          refine XS.iconst X64.here hx rfl (hb hby at_172) ?_
          show Steps p.tables e below (T64.setTop (mkF m 173 #[.val (.int ax), .val (.int aw), .val (.int ay), .val (.int ah), .val (.long bxp), .second, .val (.long byp), .second, .val (.long p1), .second, .val (.long p2), .second, .val (.long p3), .second, .val (.long p4), .second, .val (.long q1), .second, .val (.long q2), .second, .val (.long q3), .second, .val (.long q4), .second, .val (.ref b3), .val (.ref b19), .val (.int bx), .val (.int by_), .unset] [(.int (1 : Int32))])) t
          refine XS.goto X64.here hx rfl (pc0 := 173) (pc' := 177) rfl (hb hby at_173) (by decide) (by decide) ?_
          exact kt
        exact ⟨T64, ((1 : Int32)), X64, e64, (own_bt (by simp only [hr126, hr151, own_b0, decide_eq_false_iff_not, Decidable.not_not] at *; simp [*])), S74⟩
  have S76 : ∀ t, Steps p.tables e below (T69.setTop (mkF m 183 #[.val (.int ax), .val (.int aw), .val (.int ay), .val (.int ah), .val (.long bxp), .second, .val (.long byp), .second, .val (.long p1), .second, .val (.long p2), .second, .val (.long p3), .second, .val (.long p4), .second, .val (.long q1), .second, .val (.long q2), .second, .val (.long q3), .second, .val (.long q4), .second, .val (.ref b3), .val (.ref b19), .val (.int bx), .val (.int by_), .val (.int ex)] [(.ref b19), (.ref b3)])) t → Steps p.tables e below (s₁.setTop (entryFrame m #[(.int ax), (.int aw), (.int ay), (.int ah), (.long bxp), (.long byp)] maxLocals)) t := fun t kt => by
    refine S69 t ?_
    show Steps p.tables e below (T69.setTop (mkF m 177 #[.val (.int ax), .val (.int aw), .val (.int ay), .val (.int ah), .val (.long bxp), .second, .val (.long byp), .second, .val (.long p1), .second, .val (.long p2), .second, .val (.long p3), .second, .val (.long p4), .second, .val (.long q1), .second, .val (.long q2), .second, .val (.long q3), .second, .val (.long q4), .second, .val (.ref b3), .val (.ref b19), .val (.int bx), .val (.int by_), .unset] [(.int ex)])) t
    refine XS.istore X69.here hx rfl (hb hby at_177) rfl (l' := #[.val (.int ax), .val (.int aw), .val (.int ay), .val (.int ah), .val (.long bxp), .second, .val (.long byp), .second, .val (.long p1), .second, .val (.long p2), .second, .val (.long p3), .second, .val (.long p4), .second, .val (.long q1), .second, .val (.long q2), .second, .val (.long q3), .second, .val (.long q4), .second, .val (.ref b3), .val (.ref b19), .val (.int bx), .val (.int by_), .val (.int ex)]) rfl ?_
    show Steps p.tables e below (T69.setTop (mkF m 179 #[.val (.int ax), .val (.int aw), .val (.int ay), .val (.int ah), .val (.long bxp), .second, .val (.long byp), .second, .val (.long p1), .second, .val (.long p2), .second, .val (.long p3), .second, .val (.long p4), .second, .val (.long q1), .second, .val (.long q2), .second, .val (.long q3), .second, .val (.long q4), .second, .val (.ref b3), .val (.ref b19), .val (.int bx), .val (.int by_), .val (.int ex)] [])) t
    refine XS.aload X69.here hx rfl (hb hby at_179) rfl rfl ?_
    show Steps p.tables e below (T69.setTop (mkF m 181 #[.val (.int ax), .val (.int aw), .val (.int ay), .val (.int ah), .val (.long bxp), .second, .val (.long byp), .second, .val (.long p1), .second, .val (.long p2), .second, .val (.long p3), .second, .val (.long p4), .second, .val (.long q1), .second, .val (.long q2), .second, .val (.long q3), .second, .val (.long q4), .second, .val (.ref b3), .val (.ref b19), .val (.int bx), .val (.int by_), .val (.int ex)] [(.ref b3)])) t
    refine XS.aload X69.here hx rfl (hb hby at_181) rfl rfl ?_
    exact kt
  obtain ⟨cq77, kq77, q77a, q77b, q77c⟩ := isOf hZ e69 F37
  obtain ⟨_, _, ⟨T77, L77, k77, n77⟩, -, X77, ⟨Lc77, hQ77, l77, y77, z77⟩, st77⟩ := X69.virtualBack hx (y := (⟨"com/example/siteward/siteward/plane/Box", "meets", "(Lcom/example/siteward/siteward/plane/Box;)Z"⟩ : MethodName)) (z := (⟨"com/example/siteward/siteward/plane/Box", "meets", "(Lcom/example/siteward/siteward/plane/Box;)Z"⟩ : MethodName)) hown (mvT hZ (hw _ (List.mem_of_getElem? (i := 25) rfl))) (mvT hZ (hw _ (List.mem_of_getElem? (i := 26) rfl))) (notFace_of_selects (args := #[]) (mvT hZ (hw _ (List.mem_of_getElem? (i := 28) rfl)))) (mvT hZ (hw _ (List.mem_of_getElem? (i := 28) rfl))) (mvT hZ (hw _ (List.mem_of_getElem? (i := 27) rfl))) (by decide) (backOf (W := 0) (own_rm5 l Z a0 hw [] (b3) (b19) ((FP.l2d p1)) ((FP.l2d p2)) ((FP.l2d p3)) ((FP.l2d p4)) ((FP.l2d q1)) ((FP.l2d q2)) ((FP.l2d q3)) ((FP.l2d q4)) T34.heap n0 (Nat.le_trans Z0 K43.1) F38 F39 F40 F41 Fc31_xMin Fc31_xMax Fc31_yMin Fc31_yMax) hZ (hw _ (List.mem_of_getElem? (i := 29) rfl)) (hw _ (List.mem_of_getElem? (i := 3) rfl)) (by decide) (by decide)) q77a q77c (g := (mkF m 183 #[.val (.int ax), .val (.int aw), .val (.int ay), .val (.int ah), .val (.long bxp), .second, .val (.long byp), .second, .val (.long p1), .second, .val (.long p2), .second, .val (.long p3), .second, .val (.long p4), .second, .val (.long q1), .second, .val (.long q2), .second, .val (.long q3), .second, .val (.long q4), .second, .val (.ref b3), .val (.ref b19), .val (.int bx), .val (.int by_), .val (.int ex)] [(.ref b19), (.ref b3)])) rfl (by rw [hml]; rfl) (Steps.refl _) (argsL := [(.ref b19)]) (rest := []) (lenOf own_pd2 rfl) rfl (by show 2 * 0 + _ ≤ _; exact Nat.le_of_eq rfl) (hb hby at_183) (fun _ _ => ⟨rfl, e69, (by decide : 2 + 0 ≤ _), (by decide : 8 + 0 ≤ _)⟩)
  dsimp only [Pt.U, Pt.locs, Pt.cells, Pt.slots] at X77 l77 y77 z77 st77 hQ77
  subst l77 y77 z77
  obtain ⟨rfl, rfl, eq75⟩ := hQ77
  try rw [List.append_nil] at X77
  have S78 : ∀ t, Steps p.tables e below (T77.setTop (mkF m 186 #[.val (.int ax), .val (.int aw), .val (.int ay), .val (.int ah), .val (.long bxp), .second, .val (.long byp), .second, .val (.long p1), .second, .val (.long p2), .second, .val (.long p3), .second, .val (.long p4), .second, .val (.long q1), .second, .val (.long q2), .second, .val (.long q3), .second, .val (.long q4), .second, .val (.ref b3), .val (.ref b19), .val (.int bx), .val (.int by_), .val (.int ex)] [(.int (own_b (own_meets (FP.l2d p1) (FP.l2d p2) (FP.l2d p3) (FP.l2d p4) (FP.l2d q1) (FP.l2d q2) (FP.l2d q3) (FP.l2d q4))))])) t → Steps p.tables e below (s₁.setTop (entryFrame m #[(.int ax), (.int aw), (.int ay), (.int ah), (.long bxp), (.long byp)] maxLocals)) t := fun t kt => S76 t (st77.trans kt)
  have S79 : ∀ t, Steps p.tables e below (T77.setTop (mkF m 188 #[.val (.int ax), .val (.int aw), .val (.int ay), .val (.int ah), .val (.long bxp), .second, .val (.long byp), .second, .val (.long p1), .second, .val (.long p2), .second, .val (.long p3), .second, .val (.long p4), .second, .val (.long q1), .second, .val (.long q2), .second, .val (.long q3), .second, .val (.long q4), .second, .val (.ref b3), .val (.ref b19), .val (.int bx), .val (.int by_), .val (.int ex)] [(.int ex), (.int (own_b (own_meets (FP.l2d p1) (FP.l2d p2) (FP.l2d p3) (FP.l2d p4) (FP.l2d q1) (FP.l2d q2) (FP.l2d q3) (FP.l2d q4))))])) t → Steps p.tables e below (s₁.setTop (entryFrame m #[(.int ax), (.int aw), (.int ay), (.int ah), (.long bxp), (.long byp)] maxLocals)) t := fun t kt => by
    refine S78 t ?_
    show Steps p.tables e below (T77.setTop (mkF m 186 #[.val (.int ax), .val (.int aw), .val (.int ay), .val (.int ah), .val (.long bxp), .second, .val (.long byp), .second, .val (.long p1), .second, .val (.long p2), .second, .val (.long p3), .second, .val (.long p4), .second, .val (.long q1), .second, .val (.long q2), .second, .val (.long q3), .second, .val (.long q4), .second, .val (.ref b3), .val (.ref b19), .val (.int bx), .val (.int by_), .val (.int ex)] [(.int (own_b (own_meets (FP.l2d p1) (FP.l2d p2) (FP.l2d p3) (FP.l2d p4) (FP.l2d q1) (FP.l2d q2) (FP.l2d q3) (FP.l2d q4))))])) t
    refine XS.iload X77.here hx rfl (hb hby at_186) rfl ?_
    exact kt
  have hc188_80 : (own_b (own_meets (FP.l2d p1) (FP.l2d p2) (FP.l2d p3) (FP.l2d p4) (FP.l2d q1) (FP.l2d q2) (FP.l2d q3) (FP.l2d q4))) = ex := by rw [hr162, (own_plain hr0.1 hr0.2.1 hr0.2.2.1 hr0.2.2.2).1]
  have S82 : ∀ t, Steps p.tables e below (T77.setTop (mkF m 195 #[.val (.int ax), .val (.int aw), .val (.int ay), .val (.int ah), .val (.long bxp), .second, .val (.long byp), .second, .val (.long p1), .second, .val (.long p2), .second, .val (.long p3), .second, .val (.long p4), .second, .val (.long q1), .second, .val (.long q2), .second, .val (.long q3), .second, .val (.long q4), .second, .val (.ref b3), .val (.ref b19), .val (.int bx), .val (.int by_), .val (.int ex)] [(.ref b3), (.ref b19)])) t → Steps p.tables e below (s₁.setTop (entryFrame m #[(.int ax), (.int aw), (.int ay), (.int ah), (.long bxp), (.long byp)] maxLocals)) t := fun t kt => by
    refine S79 t ?_
    show Steps p.tables e below (T77.setTop (mkF m 188 #[.val (.int ax), .val (.int aw), .val (.int ay), .val (.int ah), .val (.long bxp), .second, .val (.long byp), .second, .val (.long p1), .second, .val (.long p2), .second, .val (.long p3), .second, .val (.long p4), .second, .val (.long q1), .second, .val (.long q2), .second, .val (.long q3), .second, .val (.long q4), .second, .val (.ref b3), .val (.ref b19), .val (.int bx), .val (.int by_), .val (.int ex)] [(.int ex), (.int (own_b (own_meets (FP.l2d p1) (FP.l2d p2) (FP.l2d p3) (FP.l2d p4) (FP.l2d q1) (FP.l2d q2) (FP.l2d q3) (FP.l2d q4))))])) t
    refine XS.icmpNo X77.here hx rfl (hb hby at_188) rfl (teq hc188_80).2 ?_
    show Steps p.tables e below (T77.setTop (mkF m 191 #[.val (.int ax), .val (.int aw), .val (.int ay), .val (.int ah), .val (.long bxp), .second, .val (.long byp), .second, .val (.long p1), .second, .val (.long p2), .second, .val (.long p3), .second, .val (.long p4), .second, .val (.long q1), .second, .val (.long q2), .second, .val (.long q3), .second, .val (.long q4), .second, .val (.ref b3), .val (.ref b19), .val (.int bx), .val (.int by_), .val (.int ex)] [])) t
    refine XS.aload X77.here hx rfl (hb hby at_191) rfl rfl ?_
    show Steps p.tables e below (T77.setTop (mkF m 193 #[.val (.int ax), .val (.int aw), .val (.int ay), .val (.int ah), .val (.long bxp), .second, .val (.long byp), .second, .val (.long p1), .second, .val (.long p2), .second, .val (.long p3), .second, .val (.long p4), .second, .val (.long q1), .second, .val (.long q2), .second, .val (.long q3), .second, .val (.long q4), .second, .val (.ref b3), .val (.ref b19), .val (.int bx), .val (.int by_), .val (.int ex)] [(.ref b19)])) t
    refine XS.aload X77.here hx rfl (hb hby at_193) rfl rfl ?_
    exact kt
  obtain ⟨cq83, kq83, q83a, q83b, q83c⟩ := isOf hZ eq75 F42
  obtain ⟨_, _, ⟨T83, L83, k83, n83⟩, -, X83, ⟨Lc83, hQ83, l83, y83, z83⟩, st83⟩ := X77.virtualBack hx (y := (⟨"com/example/siteward/siteward/plane/Box", "meets", "(Lcom/example/siteward/siteward/plane/Box;)Z"⟩ : MethodName)) (z := (⟨"com/example/siteward/siteward/plane/Box", "meets", "(Lcom/example/siteward/siteward/plane/Box;)Z"⟩ : MethodName)) hown (mvT hZ (hw _ (List.mem_of_getElem? (i := 25) rfl))) (mvT hZ (hw _ (List.mem_of_getElem? (i := 26) rfl))) (notFace_of_selects (args := #[]) (mvT hZ (hw _ (List.mem_of_getElem? (i := 28) rfl)))) (mvT hZ (hw _ (List.mem_of_getElem? (i := 28) rfl))) (mvT hZ (hw _ (List.mem_of_getElem? (i := 27) rfl))) (by decide) (backOf (W := 0) (own_rm5 l Z a0 hw [] (b19) (b3) ((FP.l2d q1)) ((FP.l2d q2)) ((FP.l2d q3)) ((FP.l2d q4)) ((FP.l2d p1)) ((FP.l2d p2)) ((FP.l2d p3)) ((FP.l2d p4)) T34.heap n0 (Nat.le_trans Z0 K43.1) Fc31_xMin Fc31_xMax Fc31_yMin Fc31_yMax F38 F39 F40 F41) hZ (hw _ (List.mem_of_getElem? (i := 29) rfl)) (hw _ (List.mem_of_getElem? (i := 3) rfl)) (by decide) (by decide)) q83a q83c (g := (mkF m 195 #[.val (.int ax), .val (.int aw), .val (.int ay), .val (.int ah), .val (.long bxp), .second, .val (.long byp), .second, .val (.long p1), .second, .val (.long p2), .second, .val (.long p3), .second, .val (.long p4), .second, .val (.long q1), .second, .val (.long q2), .second, .val (.long q3), .second, .val (.long q4), .second, .val (.ref b3), .val (.ref b19), .val (.int bx), .val (.int by_), .val (.int ex)] [(.ref b3), (.ref b19)])) rfl (by rw [hml]; rfl) (Steps.refl _) (argsL := [(.ref b3)]) (rest := []) (lenOf own_pd2 rfl) rfl (by show 2 * 0 + _ ≤ _; exact Nat.le_of_eq rfl) (hb hby at_195) (fun _ _ => ⟨rfl, eq75, (by decide : 2 + 0 ≤ _), (by decide : 8 + 0 ≤ _)⟩)
  dsimp only [Pt.U, Pt.locs, Pt.cells, Pt.slots] at X83 l83 y83 z83 st83 hQ83
  subst l83 y83 z83
  obtain ⟨rfl, rfl, eq81⟩ := hQ83
  try rw [List.append_nil] at X83
  have S84 : ∀ t, Steps p.tables e below (T83.setTop (mkF m 198 #[.val (.int ax), .val (.int aw), .val (.int ay), .val (.int ah), .val (.long bxp), .second, .val (.long byp), .second, .val (.long p1), .second, .val (.long p2), .second, .val (.long p3), .second, .val (.long p4), .second, .val (.long q1), .second, .val (.long q2), .second, .val (.long q3), .second, .val (.long q4), .second, .val (.ref b3), .val (.ref b19), .val (.int bx), .val (.int by_), .val (.int ex)] [(.int (own_b (own_meets (FP.l2d q1) (FP.l2d q2) (FP.l2d q3) (FP.l2d q4) (FP.l2d p1) (FP.l2d p2) (FP.l2d p3) (FP.l2d p4))))])) t → Steps p.tables e below (s₁.setTop (entryFrame m #[(.int ax), (.int aw), (.int ay), (.int ah), (.long bxp), (.long byp)] maxLocals)) t := fun t kt => S82 t (st83.trans kt)
  have S85 : ∀ t, Steps p.tables e below (T83.setTop (mkF m 200 #[.val (.int ax), .val (.int aw), .val (.int ay), .val (.int ah), .val (.long bxp), .second, .val (.long byp), .second, .val (.long p1), .second, .val (.long p2), .second, .val (.long p3), .second, .val (.long p4), .second, .val (.long q1), .second, .val (.long q2), .second, .val (.long q3), .second, .val (.long q4), .second, .val (.ref b3), .val (.ref b19), .val (.int bx), .val (.int by_), .val (.int ex)] [(.int ex), (.int (own_b (own_meets (FP.l2d q1) (FP.l2d q2) (FP.l2d q3) (FP.l2d q4) (FP.l2d p1) (FP.l2d p2) (FP.l2d p3) (FP.l2d p4))))])) t → Steps p.tables e below (s₁.setTop (entryFrame m #[(.int ax), (.int aw), (.int ay), (.int ah), (.long bxp), (.long byp)] maxLocals)) t := fun t kt => by
    refine S84 t ?_
    show Steps p.tables e below (T83.setTop (mkF m 198 #[.val (.int ax), .val (.int aw), .val (.int ay), .val (.int ah), .val (.long bxp), .second, .val (.long byp), .second, .val (.long p1), .second, .val (.long p2), .second, .val (.long p3), .second, .val (.long p4), .second, .val (.long q1), .second, .val (.long q2), .second, .val (.long q3), .second, .val (.long q4), .second, .val (.ref b3), .val (.ref b19), .val (.int bx), .val (.int by_), .val (.int ex)] [(.int (own_b (own_meets (FP.l2d q1) (FP.l2d q2) (FP.l2d q3) (FP.l2d q4) (FP.l2d p1) (FP.l2d p2) (FP.l2d p3) (FP.l2d p4))))])) t
    refine XS.iload X83.here hx rfl (hb hby at_198) rfl ?_
    exact kt
  have hc200_86 : (own_b (own_meets (FP.l2d q1) (FP.l2d q2) (FP.l2d q3) (FP.l2d q4) (FP.l2d p1) (FP.l2d p2) (FP.l2d p3) (FP.l2d p4))) = ex := by rw [hr162, (own_plain hr0.1 hr0.2.1 hr0.2.2.1 hr0.2.2.2).2]
  have S87 : ∀ t, Steps p.tables e below (T83.setTop (mkF m 208 #[.val (.int ax), .val (.int aw), .val (.int ay), .val (.int ah), .val (.long bxp), .second, .val (.long byp), .second, .val (.long p1), .second, .val (.long p2), .second, .val (.long p3), .second, .val (.long p4), .second, .val (.long q1), .second, .val (.long q2), .second, .val (.long q3), .second, .val (.long q4), .second, .val (.ref b3), .val (.ref b19), .val (.int bx), .val (.int by_), .val (.int ex)] [(.int (1 : Int32))])) t → Steps p.tables e below (s₁.setTop (entryFrame m #[(.int ax), (.int aw), (.int ay), (.int ah), (.long bxp), (.long byp)] maxLocals)) t := fun t kt => by
    refine S85 t ?_
    show Steps p.tables e below (T83.setTop (mkF m 200 #[.val (.int ax), .val (.int aw), .val (.int ay), .val (.int ah), .val (.long bxp), .second, .val (.long byp), .second, .val (.long p1), .second, .val (.long p2), .second, .val (.long p3), .second, .val (.long p4), .second, .val (.long q1), .second, .val (.long q2), .second, .val (.long q3), .second, .val (.long q4), .second, .val (.ref b3), .val (.ref b19), .val (.int bx), .val (.int by_), .val (.int ex)] [(.int ex), (.int (own_b (own_meets (FP.l2d q1) (FP.l2d q2) (FP.l2d q3) (FP.l2d q4) (FP.l2d p1) (FP.l2d p2) (FP.l2d p3) (FP.l2d p4))))])) t
    refine XS.icmpNo X83.here hx rfl (hb hby at_200) rfl (teq hc200_86).2 ?_
    show Steps p.tables e below (T83.setTop (mkF m 203 #[.val (.int ax), .val (.int aw), .val (.int ay), .val (.int ah), .val (.long bxp), .second, .val (.long byp), .second, .val (.long p1), .second, .val (.long p2), .second, .val (.long p3), .second, .val (.long p4), .second, .val (.long q1), .second, .val (.long q2), .second, .val (.long q3), .second, .val (.long q4), .second, .val (.ref b3), .val (.ref b19), .val (.int bx), .val (.int by_), .val (.int ex)] [])) t
    refine XS.iconst X83.here hx rfl (hb hby at_203) ?_
    show Steps p.tables e below (T83.setTop (mkF m 204 #[.val (.int ax), .val (.int aw), .val (.int ay), .val (.int ah), .val (.long bxp), .second, .val (.long byp), .second, .val (.long p1), .second, .val (.long p2), .second, .val (.long p3), .second, .val (.long p4), .second, .val (.long q1), .second, .val (.long q2), .second, .val (.long q3), .second, .val (.long q4), .second, .val (.ref b3), .val (.ref b19), .val (.int bx), .val (.int by_), .val (.int ex)] [(.int (1 : Int32))])) t
    refine XS.goto X83.here hx rfl (pc0 := 204) (pc' := 208) rfl (hb hby at_204) (by decide) (by decide) ?_
    exact kt
  obtain ⟨fs, hr, hrun, hended, hW, hsame⟩ := X83.leave (v := some (.int (nar .boolean (1 : Int32)))) (fun h => by rw [Bd.returns] at h; cases h)
  refine ⟨_, _, S87 _ ?_, hrun, hended, _, _, rfl, ?_, ⟨_, rfl⟩, hW, hsame.mono (by decide) (by decide)⟩
  · show Steps p.tables e below (T83.setTop (mkF m 208 #[.val (.int ax), .val (.int aw), .val (.int ay), .val (.int ah), .val (.long bxp), .second, .val (.long byp), .second, .val (.long p1), .second, .val (.long p2), .second, .val (.long p3), .second, .val (.long p4), .second, .val (.long q1), .second, .val (.long q2), .second, .val (.long q3), .second, .val (.long q4), .second, .val (.ref b3), .val (.ref b19), .val (.int bx), .val (.int by_), .val (.int ex)] [(.int (1 : Int32))])) _
    exact retN X83 hx (t := .boolean) Bd.returns (by simp) (hb hby at_208) hr
  · show own_Q0 Z ax aw ay ah bxp byp h0 n0 _ T83.heap _
    rw [eq81]
    exact ⟨rfl, N35⟩
set_option maxHeartbeats 40000000 in
theorem own_comes {Post : Tables → Env → Array Value → State → Outcome → State → Prop} (hpost : ∀ tb e args s v u, (limb_1_1.after args s (.returned v) u = true ∧ limb_1_2.after args s (.returned v) u = true ∧ True) → FrameEnd s (.returned v) u (Jvm.fieldLocs frame_1_writes args s ++ Jvm.arrayLocs frame_1_arrays args s ++ Jvm.staticLocs frame_1_statics s) 16 128 → Post tb e args s (.returned v) u) :
    ArmFor flags0 classFile x code maxLocals ret World_1 tables_1 room_1 Calls_1 rest_1 Pre_1 Post := by
  intro l hfl _ _ p e ha hc hk s m args below hf hA hF happ hP
  obtain ⟨hcalls, hrest, hpre⟩ := hP
  obtain ⟨-, -, -, hnamed, -, -, -, hat⟩ := (Spec.applies_iff hf).mp happ
  obtain ⟨hg, hn⟩ := and_e (Cond.before_iff.mp (show (Jvm.Cond.and given_1 narrow_1).before args s = true from hpre))
  obtain ⟨g1, g2⟩ := and_e hg
  obtain ⟨g3, g4⟩ := and_e g2
  obtain ⟨g5, g6⟩ := and_e g4
  obtain ⟨g7, g8⟩ := and_e g6
  obtain ⟨g9, g10⟩ := and_e g8
  obtain ⟨g11, g12⟩ := and_e g10
  obtain ⟨w0, w1, w2, w3, w4, w5, rfl⟩ : ∃ w0 w1 w2 w3 w4 w5 : Value, args = #[w0, w1, w2, w3, w4, w5] := by
    have hs : args.size = 6 := by simpa [Cond.value, given_1] using g1
    obtain ⟨L⟩ := args
    match L, hs with
    | [w0, w1, w2, w3, w4, w5], _ => exact ⟨w0, w1, w2, w3, w4, w5, rfl⟩
  have hw := fun d (hd : d ∈ tables_1) => atoms_spec (ws := Jvm.Cond.code x code maxLocals ret :: tables_1) hat d (List.mem_cons_of_mem _ hd)
  have hfit : Fit s := fun {y c} hc i hi => by
    obtain ⟨ha, rfl⟩ := Array.getElem?_eq_some_iff.mp hc
    have q := List.all_eq_true.mp ((Array.all_eq_true_iff_forall_mem.mp hF) _ (Array.getElem_mem ha)) i (List.mem_range.mpr hi)
    simpa [Array.getElem?_eq_getElem hi] using q
  obtain ⟨i0, ei0⟩ := is_v g3
  obtain rfl : w0 = (.int i0) := Option.some.inj ei0
  obtain ⟨i1, ei1⟩ := is_v g5
  obtain rfl : w1 = (.int i1) := Option.some.inj ei1
  obtain ⟨i2, ei2⟩ := is_v g7
  obtain rfl : w2 = (.int i2) := Option.some.inj ei2
  obtain ⟨i3, ei3⟩ := is_v g9
  obtain rfl : w3 = (.int i3) := Option.some.inj ei3
  obtain ⟨i4, ei4⟩ := isL_v g11
  obtain rfl : w4 = (.long i4) := Option.some.inj ei4
  obtain ⟨i5, ei5⟩ := isL_v g12
  obtain rfl : w5 = (.long i5) := Option.some.inj ei5
  obtain ⟨n, o, h1, h2, h3, _, L, rfl, ⟨rfl, N⟩, hq⟩ := own_rm0 l s _ hw tables_1 i0 i1 i2 i3 i4 i5  s.heap s.heap.size (Nat.le_refl _)  p e ha hc hk s m _ below hf ((Spec.applies_iff_loose hf).mp happ).1 ⟨rfl, State.Warmed39.refl s, rfl⟩ trivial
  refine ⟨n, _, h1, h2, h3, hpost _ _ _ _ _ _ ⟨Cond.after_iff.mpr rfl, Cond.after_iff.mpr (eq_i res_at (Term.int_eval (1)) rfl), trivial⟩ ⟨hq.1, hq.2.1, (hq.2.2.sift fun y hy => Or.inr (N y hy)).mono (by decide) (by decide)⟩⟩
theorem main_1_1 : Claimed_1_1 := own_comes fun _ _ _ _ _ _ h hF => ⟨h.1, hF⟩
theorem main_1_2 : Claimed_1_2 := own_comes fun _ _ _ _ _ _ h hF => ⟨h.2.1, hF⟩
end Jvm.Pilot.@@N@@
namespace Jvm.Pilot.@@N@@
open Jvm Jvm.ClassFile Sem Op Lib Jvm.Free Jvm.Stand Jvm.Pilot.@@N@@.Jvm.D
/-! MADE BY PROGRAM (witnessworld.py) out of the Statement's table words and the real class files: 10 classes; the members and pool entries that the words name. The judged class is class 1, her method 1. -/
namespace start1
open Jvm.ClassFile
def u (s : String) : CpInfo := .utf8 (stringToUtf16 s)
/-- a pool by its gaps: so many unusable entries, then the entry; so many at the end -/
def gap : Nat → List CpInfo → List CpInfo
  | 0, r => r
  | n + 1, r => .unusable :: gap n r
def poolList (es : List (Nat × CpInfo)) (last : Nat) : List CpInfo := es.foldr (fun e r => gap e.1 (e.2 :: r)) (gap last [])
def pool (es : List (Nat × CpInfo)) (last : Nat) : Array CpInfo := ⟨poolList es last⟩
def fileOf (pool : Array CpInfo) (this : Nat) (attrs : Array Attribute := #[]) (ms : Array MethodInfo := #[]) (fl : Nat := 33) (sup : Nat := 0) (ifs : Array Nat := #[]) (fds : Array FieldInfo := #[]) : ClassFile where
  minorVersion := 0
  majorVersion := 65
  constantPool := pool
  accessFlags := fl
  thisClass := this
  superClass := sup
  interfaces := ifs
  fields := fds
  methods := ms
  attributes := attrs
def plain (name : String) (sup : Option ClassId) : Class where
  name := name
  kind := .ordinary
  loader := none
  accessFlags := 33
  super := sup
  interfaces := #[]
  cf := none
  fields := #[]
  methods := #[]
  instanceTypes := #[]
  staticTypes := #[]
  resolved := #[]
  callSites := []
  init := .initialized
  statics := none
  mirror := none

def pool0 : Array CpInfo := pool [(5, u "<init>"), (0, u "()V"), (1, .class_ 10), (1, u "java/lang/Object")] 113

def k0c0 : Code := { maxStack := 0, maxLocals := 1, code := object_method_1_code, exceptionTable := #[], attributes := #[] }
def k0m0 : Method := { name := "<init>", desc := "()V", sig := { parameters := [], returnType := none }, accessFlags := 1, code := some k0c0 }
/-- java/lang/Object -/
def k0 : Class := { plain "java/lang/Object" none with
  accessFlags := 33
  interfaces := #[]
  cf := some (fileOf pool0 8 #[] #[{ accessFlags := 1, nameIndex := 5, descriptorIndex := 6, attributes := #[] }] 33 0 #[] #[])
  fields := #[]
  methods := #[k0m0]
  instanceTypes := #[]
  staticTypes := #[]
  resolved := Array.replicate 124 none
  statics := none }

def pool1 : Array CpInfo := pool [(2, .class_ 4), (1, u "java/lang/Object"), (0, u "<init>"), (0, u "()V"), (0, .integer 2147483647), (0, .class_ 9), (0, u "com/example/siteward/siteward/plane/Box"), (0, .methodref 8 11), (0, .nameAndType 5 12), (0, u "(DDDD)V"), (0, .methodref 14 15), (0, .class_ 16), (0, .nameAndType 17 18), (0, u "java/lang/Math"), (0, u "max"), (0, u "(JJ)J"), (0, .methodref 14 20), (0, .nameAndType 21 18), (0, u "min"), (0, .methodref 8 23), (0, .nameAndType 24 25), (0, u "meets"), (0, u "(Lcom/example/siteward/siteward/plane/Box;)Z"), (0, .class_ 27), (0, u "com/example/siteward/siteward/plane/BoxMeetsPinLaw"), (2, u "law"), (0, u "(IIIIJJ)Z")] 3

def k1m0 : Method := { name := "<init>", desc := "()V", sig := { parameters := [], returnType := none }, accessFlags := 1, code := none }
def k1c1 : Code := { maxStack := 10, maxLocals := 29, code := code, exceptionTable := #[], attributes := #[] }
def k1m1 : Method := { name := "law", desc := "(IIIIJJ)Z", sig := { parameters := [.int, .int, .int, .int, .long, .long], returnType := some .boolean }, accessFlags := 9, code := some k1c1 }
/-- com/example/siteward/siteward/plane/BoxMeetsPinLaw -/
def k1 : Class := { plain "com/example/siteward/siteward/plane/BoxMeetsPinLaw" (some 0) with
  accessFlags := 49
  interfaces := #[]
  cf := some (fileOf pool1 26 #[] #[{ accessFlags := 1, nameIndex := 5, descriptorIndex := 6, attributes := #[] }, { accessFlags := 9, nameIndex := 30, descriptorIndex := 31, attributes := #[] }] 49 2 #[] #[])
  fields := #[]
  methods := #[k1m0, k1m1]
  instanceTypes := #[]
  staticTypes := #[]
  resolved := Array.replicate 35 none
  statics := none }

def pool2 : Array CpInfo := pool [(1, .methodref 2 3), (0, .class_ 4), (0, .nameAndType 5 6), (0, u "java/lang/Object"), (0, u "<init>"), (0, u "()V"), (9, .fieldref 17 18), (0, .class_ 19), (0, .nameAndType 20 21), (0, u "com/example/siteward/siteward/plane/Box"), (0, u "xMin"), (0, u "D"), (0, .fieldref 17 23), (0, .nameAndType 24 21), (0, u "xMax"), (0, .fieldref 17 26), (0, .nameAndType 27 21), (0, u "yMin"), (0, .fieldref 17 29), (0, .nameAndType 30 21), (0, u "yMax"), (47, u "(DDDD)V"), (6, u "meets"), (0, u "(Lcom/example/siteward/siteward/plane/Box;)Z")] 48

def k2c0 : Code := { maxStack := 10, maxLocals := 9, code := prog_28_method_1_code, exceptionTable := #[], attributes := #[] }
def k2m0 : Method := { name := "<init>", desc := "(DDDD)V", sig := { parameters := [.double, .double, .double, .double], returnType := none }, accessFlags := 1, code := some k2c0 }
def k2c1 : Code := { maxStack := 4, maxLocals := 2, code := prog_28_method_5_code, exceptionTable := #[], attributes := #[] }
def k2m1 : Method := { name := "meets", desc := "(Lcom/example/siteward/siteward/plane/Box;)Z", sig := { parameters := [(.object "com/example/siteward/siteward/plane/Box")], returnType := some .boolean }, accessFlags := 0, code := some k2c1 }
/-- com/example/siteward/siteward/plane/Box -/
def k2 : Class := { plain "com/example/siteward/siteward/plane/Box" (some 0) with
  accessFlags := 49
  interfaces := #[]
  cf := some (fileOf pool2 17 #[] #[{ accessFlags := 1, nameIndex := 5, descriptorIndex := 78, attributes := #[] }, { accessFlags := 0, nameIndex := 85, descriptorIndex := 86, attributes := #[] }] 49 2 #[] #[{ accessFlags := 18, nameIndex := 20, descriptorIndex := 21, attributes := #[] }, { accessFlags := 18, nameIndex := 24, descriptorIndex := 21, attributes := #[] }, { accessFlags := 18, nameIndex := 27, descriptorIndex := 21, attributes := #[] }, { accessFlags := 18, nameIndex := 30, descriptorIndex := 21, attributes := #[] }])
  fields := #[{ name := "xMin", type := .double, accessFlags := 18, slot := 0, constantValue := 0 }, { name := "xMax", type := .double, accessFlags := 18, slot := 1, constantValue := 0 }, { name := "yMin", type := .double, accessFlags := 18, slot := 2, constantValue := 0 }, { name := "yMax", type := .double, accessFlags := 18, slot := 3, constantValue := 0 }]
  methods := #[k2m0, k2m1]
  instanceTypes := #[.double, .double, .double, .double]
  staticTypes := #[]
  resolved := Array.replicate 135 none
  statics := none }

def pool3 : Array CpInfo := pool [(1, .class_ 2), (0, u "java/lang/Math"), (1, .class_ 6), (1, u "java/lang/Object"), (0, u "<init>"), (0, u "()V"), (89, .class_ 100), (1, u "java/lang/Math$RandomNumberGeneratorHolder"), (20, u "(JJ)J"), (50, u "negativeZeroFloatBits"), (0, u "J"), (2, u "negativeZeroDoubleBits"), (21, u "max"), (2, u "min"), (43, u "$assertionsDisabled"), (0, u "Z"), (91, u "twoToTheDoubleScaleDown"), (0, u "D"), (4, u "twoToTheDoubleScaleUp"), (9, u "E"), (3, u "PI"), (2, u "TAU"), (2, u "DEGREES_TO_RADIANS"), (0, u "RADIANS_TO_DEGREES")] 94

def k3m0 : Method := { name := "<init>", desc := "()V", sig := { parameters := [], returnType := none }, accessFlags := 2, code := none }
def k3c1 : Code := { maxStack := 4, maxLocals := 4, code := jdk_29_method_66_code, exceptionTable := #[], attributes := #[] }
def k3m1 : Method := { name := "max", desc := "(JJ)J", sig := { parameters := [.long, .long], returnType := some .long }, accessFlags := 9, code := some k3c1 }
def k3c2 : Code := { maxStack := 4, maxLocals := 4, code := jdk_29_method_70_code, exceptionTable := #[], attributes := #[] }
def k3m2 : Method := { name := "min", desc := "(JJ)J", sig := { parameters := [.long, .long], returnType := some .long }, accessFlags := 9, code := some k3c2 }
/-- java/lang/Math -/
def k3 : Class := { plain "java/lang/Math" (some 0) with
  accessFlags := 49
  interfaces := #[]
  cf := some (fileOf pool3 1 #[.nestMembers #[98]] #[{ accessFlags := 2, nameIndex := 7, descriptorIndex := 8, attributes := #[] }, { accessFlags := 9, nameIndex := 198, descriptorIndex := 121, attributes := #[] }, { accessFlags := 9, nameIndex := 201, descriptorIndex := 121, attributes := #[] }] 49 4 #[] #[{ accessFlags := 25, nameIndex := 354, descriptorIndex := 339, attributes := #[] }, { accessFlags := 25, nameIndex := 358, descriptorIndex := 339, attributes := #[] }, { accessFlags := 25, nameIndex := 361, descriptorIndex := 339, attributes := #[] }, { accessFlags := 26, nameIndex := 364, descriptorIndex := 339, attributes := #[] }, { accessFlags := 26, nameIndex := 365, descriptorIndex := 339, attributes := #[] }, { accessFlags := 26, nameIndex := 172, descriptorIndex := 173, attributes := #[] }, { accessFlags := 26, nameIndex := 176, descriptorIndex := 173, attributes := #[] }, { accessFlags := 8, nameIndex := 344, descriptorIndex := 339, attributes := #[] }, { accessFlags := 8, nameIndex := 338, descriptorIndex := 339, attributes := #[] }, { accessFlags := 4120, nameIndex := 245, descriptorIndex := 246, attributes := #[] }])
  fields := #[{ name := "E", type := .double, accessFlags := 25, slot := 0, constantValue := 0 }, { name := "PI", type := .double, accessFlags := 25, slot := 1, constantValue := 0 }, { name := "TAU", type := .double, accessFlags := 25, slot := 2, constantValue := 0 }, { name := "DEGREES_TO_RADIANS", type := .double, accessFlags := 26, slot := 3, constantValue := 0 }, { name := "RADIANS_TO_DEGREES", type := .double, accessFlags := 26, slot := 4, constantValue := 0 }, { name := "negativeZeroFloatBits", type := .long, accessFlags := 26, slot := 5, constantValue := 0 }, { name := "negativeZeroDoubleBits", type := .long, accessFlags := 26, slot := 6, constantValue := 0 }, { name := "twoToTheDoubleScaleUp", type := .double, accessFlags := 8, slot := 7, constantValue := 0 }, { name := "twoToTheDoubleScaleDown", type := .double, accessFlags := 8, slot := 8, constantValue := 0 }, { name := "$assertionsDisabled", type := .boolean, accessFlags := 4120, slot := 9, constantValue := 0 }]
  methods := #[k3m0, k3m1, k3m2]
  instanceTypes := #[]
  staticTypes := #[.double, .double, .double, .double, .double, .long, .long, .double, .double, .boolean]
  resolved := Array.replicate 460 none
  statics := none }

def pool4 : Array CpInfo := pool [(1, u "java/lang/Cloneable"), (0, .class_ 1), (0, u "java/lang/Object"), (0, .class_ 3)] 3

/-- java/lang/Cloneable -/
def k4 : Class := { plain "java/lang/Cloneable" (some 0) with
  accessFlags := 1537
  interfaces := #[]
  cf := some (fileOf pool4 2 #[] #[] 1537 4 #[] #[])
  fields := #[]
  methods := #[]
  instanceTypes := #[]
  staticTypes := #[]
  resolved := Array.replicate 8 none
  statics := none }

def pool5 : Array CpInfo := pool [(1, u "java/io/Serializable"), (0, .class_ 1), (0, u "java/lang/Object"), (0, .class_ 3)] 3

/-- java/io/Serializable -/
def k5 : Class := { plain "java/io/Serializable" (some 0) with
  accessFlags := 1537
  interfaces := #[]
  cf := some (fileOf pool5 2 #[] #[] 1537 4 #[] #[])
  fields := #[]
  methods := #[]
  instanceTypes := #[]
  staticTypes := #[]
  resolved := Array.replicate 8 none
  statics := none }

/-- the primitive byte -/
def k6 : Class := { plain "byte" none with kind := .primitive 'B', accessFlags := 0x411 }
/-- [B -/
def k7 : Class := { plain "[B" (some 0) with kind := .array 6 .byte, interfaces := #[4, 5], accessFlags := 1041 }

/-- the primitive int -/
def k8 : Class := { plain "int" none with kind := .primitive 'I', accessFlags := 0x411 }
/-- [I -/
def k9 : Class := { plain "[I" (some 0) with kind := .array 8 .int, interfaces := #[4, 5], accessFlags := 1041 }

def heap : Heap := #[]
def classes : Array Class := #[k0, k1, k2, k3, k4, k5, k6, k7, k8, k9]
def interned : List (Array UInt16 × Addr) := []
def slotsUsed : Nat := 0
def theMethod : MethodId := ⟨1, 1⟩
def args0 : Array Value := #[.int 1, .int 2, .int 3, .int 4, .long 5, .long 6]
def aboutOver (below : List Frame) : State where
  vm := { classes := classes, interned := interned.toArray }
  heap := heap
  slotsUsed := slotsUsed
  threads := #[{ frames := .invoking theMethod args0 :: below }]
def below0 : List Frame := [.native { method := ⟨0, 0⟩, args := #[] }]
def about1 : State := aboutOver below0
def p0 : Program := .bare "" "" ""
def e0 : Env := launch0.env 0 0 0
theorem w_frames : about1.frames = Frame.invoking theMethod args0 :: below0 := rfl
set_option maxRecDepth 65536 in
theorem w_args : argsFit about1.vm theMethod args0 = true := by decide +kernel
set_option maxRecDepth 65536 in
theorem w_heap : heapFits about1 = true := by decide +kernel
set_option maxRecDepth 65536 in
theorem w_runnable : about1.curStatus? = some .runnable := by decide +kernel
set_option maxRecDepth 65536 in
theorem w_alone : about1.alone = true := by decide +kernel
set_option maxRecDepth 65536 in
theorem w_named : about1.methodNamed? x = some theMethod := by decide +kernel
set_option maxRecDepth 65536 in
theorem w_hears : about1.hears theMethod below0 = true := by decide +kernel
set_option maxRecDepth 65536 in
theorem w_ripe : about1.ripe theMethod args0 below0 = true := by decide +kernel
theorem w_running : about1.status = .running := rfl
set_option maxRecDepth 65536 in
theorem w_room : about1.hasRoom e0.platform room_1 = true :=
  launch0.hasRoom_least _ room_1 (by decide +kernel) (by decide +kernel) (by decide +kernel) (by decide +kernel) (by decide +kernel) (by decide +kernel)
theorem allAtoms_all (ts : List Jvm.Cond) (a : Array Jvm.Value) (st : Jvm.State) : (allAtoms ts).before a st = ts.all (fun c => c.before a st) := by
  induction ts with
  | nil => rfl
  | cons c t ih =>
    show (Jvm.Cond.and c (allAtoms t)).before a st = _
    rw [Jvm.Cond.before_and, ih, List.all_cons]
def words1 : List Jvm.Cond := Jvm.Cond.code x code maxLocals ret :: tables_1
/-- a 'code' word, met by the world's own term for the bytes: nothing is compared byte by byte -/
theorem code_word {y : MethodName} {bytes : ByteArray} {mx : Nat} {rt : Option FieldType} {a : Array Value} {s : State} {m : MethodId} {meth : Method} {c : Code} (h1 : s.methodNamed? y = some m) (h2 : s.vm.method? m = some meth) (h3 : meth.code = some c) (h4 : c.code = bytes)
    (h5 : (c.maxLocals == mx && c.exceptionTable.isEmpty && decide (c.maxStack ≤ mostOperands) && decide (meth.sig.returnType = rt) && !meth.locks && decide (parseMethodDescriptor y.desc = some meth.sig)) = true) : (Jvm.Cond.code y bytes mx rt).before a s = true := by
  simp only [Bool.and_eq_true, beq_iff_eq, Bool.not_eq_true', decide_eq_true_eq] at h5
  obtain ⟨⟨⟨⟨⟨g1, g2⟩, g3⟩, g4⟩, g5⟩, g6⟩ := h5
  simp [Cond.before, Cond.holds, Cond.value, h1, h2, h3, h4, g1, g2, g3, g4, g5, g6]
def isCode : Jvm.Cond → Bool
  | .code _ _ _ _ => true
  | _ => false
theorem all_split {L : List Jvm.Cond} {P : Jvm.Cond → Bool} (h1 : L.all (fun c => isCode c || P c) = true) (h2 : ∀ c ∈ L.filter isCode, P c = true) : L.all P = true := by
  refine List.all_eq_true.mpr fun c hc => ?_
  have h := List.all_eq_true.mp h1 c hc
  rcases Bool.eq_false_or_eq_true (isCode c) with hi | hi
  · exact h2 c (List.mem_filter.mpr ⟨hc, hi⟩)
  · simpa [hi] using h
set_option maxRecDepth 65536 in
theorem w_c0 : (Jvm.Cond.code x code maxLocals ret).before args0 about1 = true := code_word (m := ⟨1, 1⟩) (meth := k1m1) (c := k1c1) (by decide +kernel) rfl rfl rfl (by decide +kernel)
set_option maxRecDepth 65536 in
theorem w_c1 : (Jvm.Cond.code ({ cls := "com/example/siteward/siteward/plane/Box", name := "<init>", desc := "(DDDD)V" } : Jvm.MethodName) prog_28_method_1_code (9 : Nat) (Option.none : Option Jvm.ClassFile.FieldType)).before args0 about1 = true := code_word (m := ⟨2, 0⟩) (meth := k2m0) (c := k2c0) (by decide +kernel) rfl rfl rfl (by decide +kernel)
set_option maxRecDepth 65536 in
theorem w_c2 : (Jvm.Cond.code ({ cls := "java/lang/Object", name := "<init>", desc := "()V" } : Jvm.MethodName) object_method_1_code (1 : Nat) (Option.none : Option Jvm.ClassFile.FieldType)).before args0 about1 = true := code_word (m := ⟨0, 0⟩) (meth := k0m0) (c := k0c0) (by decide +kernel) rfl rfl rfl (by decide +kernel)
set_option maxRecDepth 65536 in
theorem w_c3 : (Jvm.Cond.code ({ cls := "java/lang/Math", name := "max", desc := "(JJ)J" } : Jvm.MethodName) jdk_29_method_66_code (4 : Nat) (Option.some Jvm.ClassFile.FieldType.long)).before args0 about1 = true := code_word (m := ⟨3, 1⟩) (meth := k3m1) (c := k3c1) (by decide +kernel) rfl rfl rfl (by decide +kernel)
set_option maxRecDepth 65536 in
theorem w_c4 : (Jvm.Cond.code ({ cls := "java/lang/Math", name := "min", desc := "(JJ)J" } : Jvm.MethodName) jdk_29_method_70_code (4 : Nat) (Option.some Jvm.ClassFile.FieldType.long)).before args0 about1 = true := code_word (m := ⟨3, 2⟩) (meth := k3m2) (c := k3c2) (by decide +kernel) rfl rfl rfl (by decide +kernel)
set_option maxRecDepth 65536 in
theorem w_c5 : (Jvm.Cond.code ({ cls := "com/example/siteward/siteward/plane/Box", name := "meets", desc := "(Lcom/example/siteward/siteward/plane/Box;)Z" } : Jvm.MethodName) prog_28_method_5_code (2 : Nat) (Option.some Jvm.ClassFile.FieldType.boolean)).before args0 about1 = true := code_word (m := ⟨2, 1⟩) (meth := k2m1) (c := k2c1) (by decide +kernel) rfl rfl rfl (by decide +kernel)
def codes1 : List Jvm.Cond := [Jvm.Cond.code x code maxLocals ret, Jvm.Cond.code ({ cls := "com/example/siteward/siteward/plane/Box", name := "<init>", desc := "(DDDD)V" } : Jvm.MethodName) prog_28_method_1_code (9 : Nat) (Option.none : Option Jvm.ClassFile.FieldType), Jvm.Cond.code ({ cls := "java/lang/Object", name := "<init>", desc := "()V" } : Jvm.MethodName) object_method_1_code (1 : Nat) (Option.none : Option Jvm.ClassFile.FieldType), Jvm.Cond.code ({ cls := "java/lang/Math", name := "max", desc := "(JJ)J" } : Jvm.MethodName) jdk_29_method_66_code (4 : Nat) (Option.some Jvm.ClassFile.FieldType.long), Jvm.Cond.code ({ cls := "java/lang/Math", name := "min", desc := "(JJ)J" } : Jvm.MethodName) jdk_29_method_70_code (4 : Nat) (Option.some Jvm.ClassFile.FieldType.long), Jvm.Cond.code ({ cls := "com/example/siteward/siteward/plane/Box", name := "meets", desc := "(Lcom/example/siteward/siteward/plane/Box;)Z" } : Jvm.MethodName) prog_28_method_5_code (2 : Nat) (Option.some Jvm.ClassFile.FieldType.boolean)]
set_option maxRecDepth 65536 in
theorem codes_eq : words1.filter isCode = codes1 := rfl
theorem w_codes : ∀ c ∈ words1.filter isCode, c.before args0 about1 = true := by
  rw [codes_eq]
  intro c hc
  simp only [codes1, List.mem_cons, List.not_mem_nil, or_false] at hc
  rcases hc with rfl | rfl | rfl | rfl | rfl | rfl
  · exact w_c0
  · exact w_c1
  · exact w_c2
  · exact w_c3
  · exact w_c4
  · exact w_c5
set_option maxRecDepth 65536 in
theorem w_t1 : (words1.take 24).all (fun c => isCode c || c.before args0 about1) = true := by decide +kernel
set_option maxRecDepth 65536 in
theorem w_t2 : (words1.drop 24).all (fun c => isCode c || c.before args0 about1) = true := by decide +kernel
theorem w_tables : (allAtoms (Jvm.Cond.code x code maxLocals ret :: tables_1)).before args0 about1 = true := by
  rw [allAtoms_all]
  show words1.all (fun c => c.before args0 about1) = true
  refine all_split ?_ w_codes
  rw [← List.take_append_drop 24 words1, List.all_append, w_t1, w_t2]
  rfl
set_option maxRecDepth 65536 in
theorem w_case : (Jvm.Cond.and given_1 narrow_1).before args0 about1 = true := by decide +kernel
theorem w_applies : (headSpec (Jvm.Cond.code x code maxLocals ret :: tables_1) room_1).applies x e0.platform about1 = true :=
  (Spec.applies_iff w_frames).mpr ⟨w_running, w_runnable, w_alone, w_named, w_hears, w_ripe, w_room, w_tables⟩
theorem atStart : AtStart classFile x code maxLocals ret World_1 tables_1 room_1 Calls_1 rest_1 Pre_1 launch0 p0 e0 about1 theMethod args0 below0 :=
  ⟨lists_1, trivial, launch0.admits_env _ _ _, launch0.least_env, fairChoices_fair.cas, fairChoices_fair.clock, w_frames, w_args, w_heap, w_applies, trivial, trivial, w_case⟩
end start1
theorem witness_1 : WitnessClaimed_1 := ⟨start1.p0, start1.e0, start1.about1, start1.theMethod, start1.args0, start1.below0, start1.atStart⟩
end Jvm.Pilot.@@N@@
