import JvmDerived
import JvmDerived.Pilot.@@N@@Statement
import JvmDerived.Pilot.@@N@@Code
set_option linter.unusedVariables false
set_option linter.unusedSimpArgs false
set_option maxRecDepth 65536
namespace Jvm.Pilot.@@N@@
open Jvm Jvm.ClassFile Sem Op Lib Jvm.Free Jvm.Stand Jvm.LawKit Jvm.RoadKit Bundle Jvm.Pilot.@@N@@.Jvm.D
section OwnKit
variable {p : Program} {l : Launch} {e : Env} {R : Room} {s : State} {m : MethodId} {args : Array Value} {below : List Frame} {meth : Method} {c : Code} {T : State} {locs : List Loc} {cells slots : Nat}
theorem own_retI (X : Stand p l e R s m args below meth c T locs cells slots) (hx : p.tables.exec = Jvm.exec) {pc : Nat} {Ls : Array Slot} {z : Int32} {rest : List Value} (hret : meth.sig.returnType = some .int) (hd : decode c.code pc = .ok (.ireturn, 1)) {fs : List Frame}
    (hl : ∀ (f : JFrame) (acts : List Action), f.method = m → f.locked = none → f.entered = [] → (doReturn e (T.setTop f) acts (some (.int z))).1 = T.setFrames fs) : Steps p.tables e below (T.setTop (mkF m pc Ls (.int z :: rest))) (T.setFrames fs) := by
  have hm' : T.vm.method? m = some meth := X.method'
  have hn : narrow .int (.int z) = .int z := rfl
  show Steps p.tables e below (T.setTop { method := m, pc := pc, locals := Ls, stack := _ :: rest, locked := none }) _
  jvm_step X.here [X.here.top, hx, hd, hm', hret, hn]
  first | (intro acts; rw [hl _ acts rfl rfl rfl]) | rw [hl _ _ rfl rfl rfl]
  exact Steps.refl _
/-- where the run stands, with the same writes and figures as at X -/
abbrev own_like (_ : Stand p l e R s m args below meth c T locs cells slots) (T' : State) : Prop := Stand p l e R s m args below meth c T' locs cells slots
end OwnKit
theorem own_Llt {a b : Int64} (h : a < b) : ifCond.holds .lt (lcmpW a b) = true ∧ ifCond.holds .ge (lcmpW a b) = false ∧ ifCond.holds .gt (lcmpW b a) = true ∧ ifCond.holds .le (lcmpW b a) = false := by
  simp only [if0]
  exact ⟨(tlt ((lw_lt a b).mpr h)).1, (tlt ((lw_lt a b).mpr h)).2.1, (tlt ((lw_gt b a).mpr h)).2.2.1, (tlt ((lw_gt b a).mpr h)).2.2.2⟩
theorem own_Lnl {a b : Int64} (h : ¬ a < b) : ifCond.holds .lt (lcmpW a b) = false ∧ ifCond.holds .ge (lcmpW a b) = true ∧ ifCond.holds .gt (lcmpW b a) = false ∧ ifCond.holds .le (lcmpW b a) = true := by
  simp only [if0]
  have h1 : ¬ lcmpW a b < 0 := fun q => h ((lw_lt a b).mp q)
  have h2 : ¬ 0 < lcmpW b a := fun q => h ((lw_gt b a).mp q)
  exact ⟨(flt h1).1, (flt h1).2.1, (flt h2).2.2.1, (flt h2).2.2.2⟩
theorem own_Leq {a b : Int64} (h : a = b) : ifCond.holds .eq (lcmpW a b) = true ∧ ifCond.holds .ne (lcmpW a b) = false := by
  simp only [if0]
  exact teq ((lw_eq a b).mpr h)
theorem own_Lne {a b : Int64} (h : ¬ a = b) : ifCond.holds .eq (lcmpW a b) = false ∧ ifCond.holds .ne (lcmpW a b) = true := by
  simp only [if0]
  exact feq fun q => h ((lw_eq a b).mp q)
theorem own_StaK {Z : State} {h h' : Heap} {C n d : String} {v : Value} {ws : List Addr} (F : Sta Z h C n d v) (K : Keep h h' ws) (q : ∀ x ∈ ws, ∃ c : Cell, h[x]? = some c ∧ c.vm.isStatics = false) : Sta Z h' C n d v := by
  obtain ⟨cf, i, k, f, st, cell, h1, h2, h3, h4, h5, h6, h7⟩ := F
  refine ⟨cf, i, k, f, st, cell, h1, h2, h3, h4, K.2.1 st cell h5 (fun hm => ?_), h6, h7⟩
  obtain ⟨c, e1, e2⟩ := q _ hm
  rw [h5] at e1
  cases e1
  rw [h6] at e2
  cases e2
theorem own_ExaS {Z : State} {h : Heap} {a : Addr} {C : String} (E : Exa Z h a C) : ∃ c : Cell, h[a]? = some c ∧ c.vm.isStatics = false := by
  obtain ⟨c, k, e1, -, -, e2, -⟩ := E
  exact ⟨c, e1, e2⟩
/-- a boolean as the JVM's int -/
def own_b (b : Bool) : Int32 := if b then 1 else 0
theorem own_b_t : own_b true = 1 := rfl
theorem own_b_f : own_b false = 0 := rfl
theorem own_b0 {b : Bool} : own_b b = 0 ↔ b = false := by cases b <;> decide
theorem own_b_inj {b c : Bool} : own_b b = own_b c ↔ b = c := by cases b <;> cases c <;> decide
theorem own_leafT {b : Bool} (h : b = true) : (some (.int (nar .boolean (1 : Int32))) : Option Value) = some (.int (own_b b)) := by subst h; rfl
theorem own_leafF {b : Bool} (h : b = false) : (some (.int (nar .boolean (0 : Int32))) : Option Value) = some (.int (own_b b)) := by subst h; rfl
theorem own_bt {b : Bool} (h : b = true) : (1 : Int32) = own_b b := by subst h; rfl
theorem own_bf {b : Bool} (h : b = false) : (0 : Int32) = own_b b := by subst h; rfl
theorem own_b_nar (b : Bool) : nar .boolean (own_b b) = own_b b := by cases b <;> rfl
section OwnFP
open Jvm.FP.Core
theorem own_d1 : DInt 1 FP.dconst1 := by
  have e : FP.dconst1 = l2d 1 := by decide +kernel
  rw [e]; exact l2d_int (a := 1) (by decide)
theorem own_d20 : DInt 1048576 (4697254411347427328 : UInt64) := by
  have e : (4697254411347427328 : UInt64) = l2d 1048576 := by decide +kernel
  rw [e]; exact l2d_int (a := 1048576) (by decide)
theorem own_d21 : DInt 1048577 (l2d 1048577) := l2d_int (a := 1048577) (by decide)
theorem own_sum (q : Int32) : DInt (q.toInt + 1) (dadd (i2d q) FP.dconst1) := by
  have r := rng32 q
  exact dadd_int (i2d_int q) own_d1 (by omega)
theorem own_dfin {i : Int} {a : UInt64} (h : DInt i a) : DFin a := by
  unfold DInt at h
  unfold DFin
  cases e : val64 a with
  | nan => rw [e] at h; exact h.elim
  | inf s => rw [e] at h; exact h.elim
  | fin s q r => exact ⟨s, q, r, rfl⟩
theorem own_ne_nan {a : UInt64} (h : DFin a) : val64 a ≠ .nan := by
  obtain ⟨s, q, r, e⟩ := h
  rw [e]; exact Datum.noConfusion
theorem own_sgn (s t : Bool) (m n : Nat) : signed (s != t) (m * n) = signed s m * signed t n := by
  cases s <;> cases t <;> simp [signed, Int.neg_mul, Int.mul_neg]
theorem own_prod {i j : Int} {a b : UInt64} (ha : DInt i a) (hb : DInt j b) : ∃ s q r, exactProduct (val64 a) (val64 b) = .fin s q r ∧ 2 * b64.qmin ≤ r ∧ signed s (inUnits q r (2 * b64.qmin)) = (i * ((2 ^ (-b64.qmin).toNat : Nat) : Int)) * (j * ((2 ^ (-b64.qmin).toNat : Nat) : Int)) := by
  obtain ⟨s1, q1, r1, e1⟩ := own_dfin ha
  obtain ⟨s2, q2, r2, e2⟩ := own_dfin hb
  have f1 := val64_fits a
  have f2 := val64_fits b
  have z1 := whole_zval good_b64 f1 ha
  have z2 := whole_zval good_b64 f2 hb
  rw [e1] at f1 z1
  rw [e2] at f2 z2
  obtain ⟨h1, h2, h3⟩ := product_units f1 f2
  refine ⟨_, _, _, by rw [e1, e2]; exact h1, h2, ?_⟩
  rw [h3, own_sgn, ← z1, ← z2]
  rfl
theorem own_shift : ((2 ^ (b64.qmin - 2 * b64.qmin).toNat : Nat) : Int) = ((2 ^ (-b64.qmin).toNat : Nat) : Int) := by
  rw [show b64.qmin - 2 * b64.qmin = -b64.qmin by omega]
theorem own_le_prod {i j N : Int} {a b d : UInt64} (ha : DInt i a) (hb : DInt j b) (hd : DInt N d) (h : N ≤ i * j) : zval b64 (val64 d) ≤ zval b64 (val64 (dmul a b)) := by
  obtain ⟨s, q, r, e1, e2, e3⟩ := own_prod ha hb
  rw [val64_dmul, e1]
  refine zval_round_ge good_b64 (val64_fits d) (own_ne_nan (own_dfin hd)) (e0 := 2 * b64.qmin) (by decide) e2 ?_
  rw [e3, whole_zval good_b64 (val64_fits d) hd, own_shift]
  generalize hU : ((2 ^ (-b64.qmin).toNat : Nat) : Int) = U
  have hp : 0 ≤ U * U := by rw [← hU]; exact Int.mul_nonneg (Int.natCast_nonneg _) (Int.natCast_nonneg _)
  have : i * U * (j * U) = (i * j) * (U * U) := by grind
  rw [this, Int.mul_assoc]
  exact Int.mul_le_mul_of_nonneg_right h hp
theorem own_prod_le {i j N : Int} {a b d : UInt64} (ha : DInt i a) (hb : DInt j b) (hd : DInt N d) (h : i * j ≤ N) : zval b64 (val64 (dmul a b)) ≤ zval b64 (val64 d) := by
  obtain ⟨s, q, r, e1, e2, e3⟩ := own_prod ha hb
  rw [val64_dmul, e1]
  refine zval_round_le good_b64 (val64_fits d) (own_ne_nan (own_dfin hd)) (e0 := 2 * b64.qmin) (by decide) e2 ?_
  rw [e3, whole_zval good_b64 (val64_fits d) hd, own_shift]
  generalize hU : ((2 ^ (-b64.qmin).toNat : Nat) : Int) = U
  have hp : 0 ≤ U * U := by rw [← hU]; exact Int.mul_nonneg (Int.natCast_nonneg _) (Int.natCast_nonneg _)
  have : i * U * (j * U) = (i * j) * (U * U) := by grind
  rw [this, show N * U * U = N * (U * U) from Int.mul_assoc _ _ _]
  exact Int.mul_le_mul_of_nonneg_right h hp
theorem own_no {x : UInt64} (h : dIsNaN x = false) : x &&& 0x7fffffffffffffff ≤ 0x7ff0000000000000 := Jvm.Free.Fl.noNaN64_no.mpr h
theorem own_nan {i j : Int} {a b : UInt64} (ha : DInt i a) (hb : DInt j b) : dIsNaN (dmul a b) = false := dmul_out (own_dfin ha) (own_dfin hb)
theorem own_cmp {x y : Int} (o : CmpOp) : ((0 : Int32) < cmpValue (some (compare x y)) o) ↔ y < x := by
  rcases Int.lt_trichotomy x y with h | h | h
  · rw [show compare x y = .lt by show compareOfLessAndEq _ _ = _; unfold compareOfLessAndEq; rw [if_pos h]]
    exact ⟨fun q => absurd q (by cases o <;> decide), fun q => by omega⟩
  · rw [h, show compare y y = .eq by show compareOfLessAndEq _ _ = _; unfold compareOfLessAndEq; rw [if_neg (by omega), if_pos rfl]]
    exact ⟨fun q => absurd q (by cases o <;> decide), fun q => by omega⟩
  · rw [show compare x y = .gt by show compareOfLessAndEq _ _ = _; unfold compareOfLessAndEq; rw [if_neg (by omega), if_neg (by omega)]]
    exact ⟨fun _ => h, fun _ => by cases o <;> decide⟩
theorem own_big {i j : Int} {a b : UInt64} (ha : DInt i a) (hb : DInt j b) : ((0 : Int32) < cmpValue (FP.dcmp (FP.dmul a b) (4697254411347427328 : UInt64)) .g) ↔ 1048576 < i * j := by
  have hn : val64 (dmul a b) ≠ .nan := (notNaN_iff _).mp (own_nan ha hb)
  have e : FP.dcmp (FP.dmul a b) (4697254411347427328 : UInt64) = some (compare (zval b64 (val64 (dmul a b))) (zval b64 (val64 4697254411347427328))) := order_zval good_b64 (val64_fits _) (val64_fits _) hn (own_ne_nan (own_dfin own_d20))
  rw [e, own_cmp]
  constructor
  · intro h
    refine Int.lt_of_not_ge fun q => ?_
    have := own_prod_le ha hb own_d20 q
    omega
  · intro h
    have h1 := own_le_prod ha hb own_d21 (by omega)
    have h2 := whole_zval good_b64 (val64_fits _) own_d20
    have h3 := whole_zval good_b64 (val64_fits _) own_d21
    have hp : (0 : Int) < ((2 ^ (-b64.qmin).toNat : Nat) : Int) := by exact Int.natCast_pos.mpr (Nat.two_pow_pos _)
    generalize ((2 ^ (-b64.qmin).toNat : Nat) : Int) = U at h2 h3 hp
    rw [h3] at h1
    rw [h2]
    omega
end OwnFP
theorem own_sumnum (q : Int32) : FP.dadd (FP.i2d q) FP.dconst1 &&& 0x7fffffffffffffff ≤ 0x7ff0000000000000 := own_no ((FP.Core.notNaN_iff _).mpr (own_ne_nan (own_dfin (own_sum q))))
theorem own_mulnum (p q : Int32) : FP.dmul (FP.i2d p) (FP.dadd (FP.i2d q) FP.dconst1) &&& 0x7fffffffffffffff ≤ 0x7ff0000000000000 := own_no (own_nan (FP.Core.i2d_int p) (own_sum q))
def own_fit (p : Int32) (d : UInt64) : Bool := decide (¬ (0 : Int32) < cmpValue (FP.dcmp (FP.dmul (FP.i2d p) (FP.dadd d FP.dconst1)) (4697254411347427328 : UInt64)) .g)
theorem own_fit_iff (p q : Int32) : own_fit p (FP.i2d q) = decide (p.toInt * (q.toInt + 1) ≤ 1048576) := by
  unfold own_fit
  rw [decide_eq_decide, own_big (FP.Core.i2d_int p) (own_sum q)]
  omega
def own_ex (p q : Int32) : Bool := decide (if (p.toInt64) = (0 : Int64) then True else if (0 : Int64) < (p.toInt64) then ¬ ((1048576 : Int64) / (p.toInt64)) < ((q.toInt64) + (1 : Int64)) else ¬ ((q.toInt64) + (1 : Int64)) < (-((1048576 : Int64) / (-(p.toInt64)))))
theorem own_neg (p : Int32) : (-(p.toInt64)).toInt = -p.toInt := by
  have a := c_lneg p.toInt64
  have b := c_i2l p
  have r := rng32 p
  have r2 := rng64 (-(p.toInt64))
  omega
theorem own_negnz {p : Int32} (h : ¬ (p.toInt64) = (0 : Int64)) : (-(p.toInt64)) ≠ (0 : Int64) := fun e => h (Int64.toInt_inj.mp (by
  have a := own_neg p
  rw [e] at a
  have b := c_i2l p
  have z : (0 : Int64).toInt = 0 := rfl
  omega))
theorem own_x (q : Int32) : ((q.toInt64) + (1 : Int64)).toInt = q.toInt + 1 := by
  have a := c_ladd q.toInt64 1
  have b := c_i2l q
  have r := rng32 q
  have r2 := rng64 (q.toInt64 + 1)
  have z : (1 : Int64).toInt = 1 := rfl
  omega
theorem own_ex_iff (p q : Int32) : own_ex p q = decide (p.toInt * (q.toInt + 1) ≤ 1048576) := by
  unfold own_ex
  rw [decide_eq_decide]
  have bp := c_i2l p
  have z0 : (0 : Int64).toInt = 0 := rfl
  have zn : (1048576 : Int64).toInt = 1048576 := rfl
  by_cases h0 : (p.toInt64) = (0 : Int64)
  · have e : p.toInt = 0 := by rw [h0] at bp; omega
    rw [if_pos h0, e, Int.zero_mul]
    exact ⟨fun _ => by omega, fun _ => trivial⟩
  · rw [if_neg h0]
    have hp0 : p.toInt ≠ 0 := fun e => h0 (Int64.toInt_inj.mp (by omega))
    by_cases h1 : (0 : Int64) < (p.toInt64)
    · rw [if_pos h1]
      have hp : 0 < p.toInt := by rw [Int64.lt_iff_toInt_lt] at h1; omega
      have hd := (c_ldiv (1048576 : Int64) p.toInt64 p.toInt bp (fun e => by rw [e] at bp; have : (-1 : Int64).toInt = -1 := rfl; omega)).1 (by omega)
      rw [Int64.lt_iff_toInt_lt, own_x, hd, zn, Int.mul_comm, ← Int.le_ediv_iff_mul_le hp]
      omega
    · rw [if_neg h1]
      have hp : p.toInt < 0 := by rw [Int64.lt_iff_toInt_lt] at h1; omega
      have hn := own_neg p
      have hq : 0 < -p.toInt := by omega
      have hd := (c_ldiv (1048576 : Int64) (-(p.toInt64)) (-p.toInt) hn (fun e => by rw [e] at hn; have : (-1 : Int64).toInt = -1 := rfl; omega)).1 (by omega)
      rw [zn] at hd
      have hb : 0 ≤ 1048576 / (-p.toInt) ∧ 1048576 / (-p.toInt) ≤ 1048576 := ⟨Int.ediv_nonneg (by omega) (by omega), Int.ediv_le_self _ (by omega)⟩
      have hm := c_lneg ((1048576 : Int64) / (-(p.toInt64)))
      have hr := rng64 (-((1048576 : Int64) / (-(p.toInt64))))
      have he : (-((1048576 : Int64) / (-(p.toInt64)))).toInt = -(1048576 / (-p.toInt)) := by omega
      rw [Int64.lt_iff_toInt_lt, own_x, he, show p.toInt * (q.toInt + 1) = (-(q.toInt + 1)) * (-p.toInt) by grind, ← Int.le_ediv_iff_mul_le hq]
      omega
theorem own_plain (p q : Int32) : own_b (own_fit p (FP.i2d q)) = own_b (own_ex p q) := by rw [own_fit_iff, own_ex_iff]
theorem own_d1_0 : decode prog_4_method_2_code 0 = .ok (.iload_n 0, 1) := by decide +kernel
theorem own_d1_1 : decode prog_4_method_2_code 1 = .ok (.i2d, 1) := by decide +kernel
theorem own_d1_2 : decode prog_4_method_2_code 2 = .ok (.dload_n 1, 1) := by decide +kernel
theorem own_d1_3 : decode prog_4_method_2_code 3 = .ok (.dconst 1, 1) := by decide +kernel
theorem own_d1_4 : decode prog_4_method_2_code 4 = .ok (.dadd, 1) := by decide +kernel
theorem own_d1_5 : decode prog_4_method_2_code 5 = .ok (.dmul, 1) := by decide +kernel
theorem own_d1_6 : decode prog_4_method_2_code 6 = .ok (.ldc2_w 34, 3) := by decide +kernel
theorem own_d1_9 : decode prog_4_method_2_code 9 = .ok (.dcmp .g, 1) := by decide +kernel
theorem own_d1_10 : decode prog_4_method_2_code 10 = .ok (.ifCond .gt 7, 3) := by decide +kernel
theorem own_d1_13 : decode prog_4_method_2_code 13 = .ok (.iconst 1, 1) := by decide +kernel
theorem own_d1_14 : decode prog_4_method_2_code 14 = .ok (.goto 4, 3) := by decide +kernel
theorem own_d1_17 : decode prog_4_method_2_code 17 = .ok (.iconst 0, 1) := by decide +kernel
theorem own_d1_18 : decode prog_4_method_2_code 18 = .ok (.ireturn, 1) := by decide +kernel
theorem own_ef1 (m : MethodId) (x0 : Int32) (x1 : UInt64) : entryFrame m #[(.int x0), (.double x1)] 3 = mkF m 0 #[.val (.int x0), .val (.double x1), .second] [] := by first | (simp [entryFrame, mkF, argsToLocals, Value.category]; done) | rfl
def own_Q1 (Z : State) (pt : Int32) (cp : UInt64) (h0 : Heap) (n0 : Nat) (v : Option Value) (h : Heap) (L : List Loc) : Prop := v = some (.int (own_b (own_fit pt cp))) ∧ L = [] ∧ h = h0
theorem own_pn0 : plainName "com/example/siteward/siteward/assignment/Knapsack" = true := by first | (simp [plainName, overriddenIn]; done) | decide +kernel
set_option maxHeartbeats 40000000 in
theorem own_rm1 (l : Launch) (Z : State) (a0 : Array Value) (hw : ∀ d ∈ tables_1, d.before a0 Z = true) (ws : List Jvm.Cond) (pt : Int32) (cp : UInt64) (h0 : Heap) (n0 : Nat) (Z0 : n0 ≤ h0.size) (hn1 : FP.dadd cp FP.dconst1 &&& 0x7fffffffffffffff ≤ 0x7ff0000000000000) (hn2 : FP.dmul (FP.i2d pt) (FP.dadd cp FP.dconst1) &&& 0x7fffffffffffffff ≤ 0x7ff0000000000000) :
    MetFree l (⟨"com/example/siteward/siteward/assignment/Knapsack", "fits", "(ID)Z"⟩ : MethodName) (head1 (Jvm.Cond.code (⟨"com/example/siteward/siteward/assignment/Knapsack", "fits", "(ID)Z"⟩ : MethodName) prog_4_method_2_code 3 (some .boolean) :: ws) ({ frames := 0, cells := 0, slots := 0, locals := 0 } : Room)) (fun argv U => argv = #[(.int pt), (.double cp)] ∧ Z.Warmed39 U.vm ∧ U.heap = h0) (fun _ _ _ _ _ => True) (fun _ U o U' => ∃ v L, o = .returned v ∧ own_Q1 Z pt cp h0 n0 v U'.heap L ∧ FrameEnd U o U' L ({ frames := 0, cells := 0, slots := 0, locals := 0 } : Room).cells ({ frames := 0, cells := 0, slots := 0, locals := 0 } : Room).slots) := by
  refine MetFree.of_bodySF (plainFor_of_name own_pn0) hisR ?_
  intro p e s m args below meth c s₁ Bd hml0 hP hK
  obtain ⟨rfl, hZ, hh⟩ := hP
  have hx := Bd.exec
  have hby := Bd.bytes
  have hml : c.maxLocals = 3 := hml0
  have hown : s.vm.findClass "com/example/siteward/siteward/assignment/Knapsack" = some m.cls := findClass_of_methodNamed Bd.named
  have hnm := (name_of_methodNamed Bd.named Bd.method).1
  have X0 : Stand p l e ({ frames := 0, cells := 0, slots := 0, locals := 0 } : Room) s m #[(.int pt), (.double cp)] below meth c s₁ [] 0 0 := Stand.of_body Bd
  have e0 : s₁.heap = h0 := by rw [← hh, Bd.state]; rfl
  have N0 := Fr.nil n0
  have pre0 : ∀ t, Steps p.tables e below (s₁.setTop (mkF m 0 #[.val (.int pt), .val (.double cp), .second] [])) t → Steps p.tables e below (s₁.setTop (entryFrame m #[(.int pt), (.double cp)] 3)) t := fun t k => castTop (own_ef1 m pt cp) k
  have S1 : ∀ t, Steps p.tables e below (s₁.setTop (mkF m 10 #[.val (.int pt), .val (.double cp), .second] [(.int (cmpValue (FP.dcmp (FP.dmul (FP.i2d pt) (FP.dadd cp FP.dconst1)) (4697254411347427328 : UInt64)) .g))])) t → Steps p.tables e below (s₁.setTop (entryFrame m #[(.int pt), (.double cp)] 3)) t := fun t kt => by
    refine pre0 t ?_
    show Steps p.tables e below (s₁.setTop (mkF m 0 #[.val (.int pt), .val (.double cp), .second] [])) t
    refine XS.iloadN X0.here hx rfl (hb hby own_d1_0) rfl ?_
    show Steps p.tables e below (s₁.setTop (mkF m 1 #[.val (.int pt), .val (.double cp), .second] [(.int pt)])) t
    jvm_step X0.here [X0.here.top, hx, (hb hby own_d1_1)]
    show Steps p.tables e below (s₁.setTop (mkF m 2 #[.val (.int pt), .val (.double cp), .second] [(.double (FP.i2d pt))])) t
    jvm_step X0.here [X0.here.top, hx, (hb hby own_d1_2)]
    show Steps p.tables e below (s₁.setTop (mkF m 3 #[.val (.int pt), .val (.double cp), .second] [(.double cp), (.double (FP.i2d pt))])) t
    jvm_step X0.here [X0.here.top, hx, (hb hby own_d1_3)]
    show Steps p.tables e below (s₁.setTop (mkF m 4 #[.val (.int pt), .val (.double cp), .second] [(.double FP.dconst1), (.double cp), (.double (FP.i2d pt))])) t
    jvm_step X0.here [X0.here.top, hx, (hb hby own_d1_4), Op.dadd.at_number X0.here.top hn1]
    show Steps p.tables e below (s₁.setTop (mkF m 5 #[.val (.int pt), .val (.double cp), .second] [(.double (FP.dadd cp FP.dconst1)), (.double (FP.i2d pt))])) t
    jvm_step X0.here [X0.here.top, hx, (hb hby own_d1_5), Op.dmul.at_number X0.here.top hn2]
    show Steps p.tables e below (s₁.setTop (mkF m 6 #[.val (.int pt), .val (.double cp), .second] [(.double (FP.dmul (FP.i2d pt) (FP.dadd cp FP.dconst1)))])) t
    refine X0.ldc2DoubleC hx hown (mvT hZ (hw _ (List.mem_of_getElem? (i := 4) rfl))) (g := (mkF m 6 #[.val (.int pt), .val (.double cp), .second] [(.double (FP.dmul (FP.i2d pt) (FP.dadd cp FP.dconst1)))])) rfl (hb hby own_d1_6) _ ?_
    show Steps p.tables e below (s₁.setTop (mkF m 9 #[.val (.int pt), .val (.double cp), .second] [(.double (4697254411347427328 : UInt64)), (.double (FP.dmul (FP.i2d pt) (FP.dadd cp FP.dconst1)))])) t
    jvm_step X0.here [X0.here.top, hx, (hb hby own_d1_9)]
    exact kt
  by_cases hc10 : (0 : Int32) < (cmpValue (FP.dcmp (FP.dmul (FP.i2d pt) (FP.dadd cp FP.dconst1)) (4697254411347427328 : UInt64)) .g)
  · skip
    have S2 : ∀ t, Steps p.tables e below (s₁.setTop (mkF m 18 #[.val (.int pt), .val (.double cp), .second] [(.int (0 : Int32))])) t → Steps p.tables e below (s₁.setTop (entryFrame m #[(.int pt), (.double cp)] 3)) t := fun t kt => by
      refine S1 t ?_
      show Steps p.tables e below (s₁.setTop (mkF m 10 #[.val (.int pt), .val (.double cp), .second] [(.int (cmpValue (FP.dcmp (FP.dmul (FP.i2d pt) (FP.dadd cp FP.dconst1)) (4697254411347427328 : UInt64)) .g))])) t
      refine XS.ifYes X0.here hx rfl (pc0 := 10) (pc' := 17) rfl (hb hby own_d1_10) rfl ((if0 _ _).trans (tlt hc10).2.2.1) (by decide) (by decide) ?_
      show Steps p.tables e below (s₁.setTop (mkF m 17 #[.val (.int pt), .val (.double cp), .second] [])) t
      refine XS.iconst X0.here hx rfl (hb hby own_d1_17) ?_
      exact kt
    obtain ⟨fs, hr, hrun, hended, hW, hsame⟩ := X0.leave (v := some (.int (nar .boolean (0 : Int32)))) (fun h => by rw [Bd.returns] at h; cases h)
    refine ⟨_, _, S2 _ ?_, hrun, hended, _, _, rfl, ?_, ⟨_, rfl⟩, hW, hsame.mono (by decide) (by decide)⟩
    · show Steps p.tables e below (s₁.setTop (mkF m 18 #[.val (.int pt), .val (.double cp), .second] [(.int (0 : Int32))])) _
      exact retN X0 hx (t := .boolean) Bd.returns (by simp) (hb hby own_d1_18) hr
    · show own_Q1 Z pt cp h0 n0 _ s₁.heap _
      rw [e0]
      exact ⟨own_leafF (by simp only [own_fit, decide_true, decide_false, not_true_eq_false, not_false_eq_true, and_true, true_and, and_false, false_and, and_self, or_true, true_or, or_false, false_or, or_self, if_true, if_false, Bool.not_true, Bool.not_false, Bool.and_true, Bool.true_and, Bool.and_false, Bool.false_and, *]), rfl, rfl⟩
  · skip
    have S3 : ∀ t, Steps p.tables e below (s₁.setTop (mkF m 18 #[.val (.int pt), .val (.double cp), .second] [(.int (1 : Int32))])) t → Steps p.tables e below (s₁.setTop (entryFrame m #[(.int pt), (.double cp)] 3)) t := fun t kt => by
      refine S1 t ?_
      show Steps p.tables e below (s₁.setTop (mkF m 10 #[.val (.int pt), .val (.double cp), .second] [(.int (cmpValue (FP.dcmp (FP.dmul (FP.i2d pt) (FP.dadd cp FP.dconst1)) (4697254411347427328 : UInt64)) .g))])) t
      refine XS.ifNo X0.here hx rfl (hb hby own_d1_10) rfl ((if0 _ _).trans (flt hc10).2.2.1) ?_
      show Steps p.tables e below (s₁.setTop (mkF m 13 #[.val (.int pt), .val (.double cp), .second] [])) t
      refine XS.iconst X0.here hx rfl (hb hby own_d1_13) ?_
      show Steps p.tables e below (s₁.setTop (mkF m 14 #[.val (.int pt), .val (.double cp), .second] [(.int (1 : Int32))])) t
      refine XS.goto X0.here hx rfl (pc0 := 14) (pc' := 18) rfl (hb hby own_d1_14) (by decide) (by decide) ?_
      exact kt
    obtain ⟨fs, hr, hrun, hended, hW, hsame⟩ := X0.leave (v := some (.int (nar .boolean (1 : Int32)))) (fun h => by rw [Bd.returns] at h; cases h)
    refine ⟨_, _, S3 _ ?_, hrun, hended, _, _, rfl, ?_, ⟨_, rfl⟩, hW, hsame.mono (by decide) (by decide)⟩
    · show Steps p.tables e below (s₁.setTop (mkF m 18 #[.val (.int pt), .val (.double cp), .second] [(.int (1 : Int32))])) _
      exact retN X0 hx (t := .boolean) Bd.returns (by simp) (hb hby own_d1_18) hr
    · show own_Q1 Z pt cp h0 n0 _ s₁.heap _
      rw [e0]
      exact ⟨own_leafT (by simp only [own_fit, decide_true, decide_false, not_true_eq_false, not_false_eq_true, and_true, true_and, and_false, false_and, and_self, or_true, true_or, or_false, false_or, or_self, if_true, if_false, Bool.not_true, Bool.not_false, Bool.and_true, Bool.true_and, Bool.and_false, Bool.false_and, *]), rfl, rfl⟩
theorem own_d2_0 : decode method_3_code 0 = .ok (.ldc2_w 19, 3) := by decide +kernel
theorem own_d2_3 : decode method_3_code 3 = .ok (.lstore_n 2, 1) := by decide +kernel
theorem own_d2_4 : decode method_3_code 4 = .ok (.iload_n 0, 1) := by decide +kernel
theorem own_d2_5 : decode method_3_code 5 = .ok (.i2l, 1) := by decide +kernel
theorem own_d2_6 : decode method_3_code 6 = .ok (.lstore 4, 2) := by decide +kernel
theorem own_d2_8 : decode method_3_code 8 = .ok (.iload_n 1, 1) := by decide +kernel
theorem own_d2_9 : decode method_3_code 9 = .ok (.i2l, 1) := by decide +kernel
theorem own_d2_10 : decode method_3_code 10 = .ok (.lconst 1, 1) := by decide +kernel
theorem own_d2_11 : decode method_3_code 11 = .ok (.ladd, 1) := by decide +kernel
theorem own_d2_12 : decode method_3_code 12 = .ok (.lstore 6, 2) := by decide +kernel
theorem own_d2_14 : decode method_3_code 14 = .ok (.lload 4, 2) := by decide +kernel
theorem own_d2_16 : decode method_3_code 16 = .ok (.lconst 0, 1) := by decide +kernel
theorem own_d2_17 : decode method_3_code 17 = .ok (.lcmp, 1) := by decide +kernel
theorem own_d2_18 : decode method_3_code 18 = .ok (.ifCond .ne 5, 3) := by decide +kernel
theorem own_d2_21 : decode method_3_code 21 = .ok (.iconst 1, 1) := by decide +kernel
theorem own_d2_22 : decode method_3_code 22 = .ok (.ireturn, 1) := by decide +kernel
theorem own_d2_23 : decode method_3_code 23 = .ok (.lload 4, 2) := by decide +kernel
theorem own_d2_25 : decode method_3_code 25 = .ok (.lconst 0, 1) := by decide +kernel
theorem own_d2_26 : decode method_3_code 26 = .ok (.lcmp, 1) := by decide +kernel
theorem own_d2_27 : decode method_3_code 27 = .ok (.ifCond .le 19, 3) := by decide +kernel
theorem own_d2_30 : decode method_3_code 30 = .ok (.lload 6, 2) := by decide +kernel
theorem own_d2_32 : decode method_3_code 32 = .ok (.lload_n 2, 1) := by decide +kernel
theorem own_d2_33 : decode method_3_code 33 = .ok (.lload 4, 2) := by decide +kernel
theorem own_d2_35 : decode method_3_code 35 = .ok (.ldiv, 1) := by decide +kernel
theorem own_d2_36 : decode method_3_code 36 = .ok (.lcmp, 1) := by decide +kernel
theorem own_d2_37 : decode method_3_code 37 = .ok (.ifCond .gt 7, 3) := by decide +kernel
theorem own_d2_40 : decode method_3_code 40 = .ok (.iconst 1, 1) := by decide +kernel
theorem own_d2_41 : decode method_3_code 41 = .ok (.goto 4, 3) := by decide +kernel
theorem own_d2_44 : decode method_3_code 44 = .ok (.iconst 0, 1) := by decide +kernel
theorem own_d2_45 : decode method_3_code 45 = .ok (.ireturn, 1) := by decide +kernel
theorem own_d2_46 : decode method_3_code 46 = .ok (.lload 6, 2) := by decide +kernel
theorem own_d2_48 : decode method_3_code 48 = .ok (.lload_n 2, 1) := by decide +kernel
theorem own_d2_49 : decode method_3_code 49 = .ok (.lload 4, 2) := by decide +kernel
theorem own_d2_51 : decode method_3_code 51 = .ok (.lneg, 1) := by decide +kernel
theorem own_d2_52 : decode method_3_code 52 = .ok (.ldiv, 1) := by decide +kernel
theorem own_d2_53 : decode method_3_code 53 = .ok (.lneg, 1) := by decide +kernel
theorem own_d2_54 : decode method_3_code 54 = .ok (.lcmp, 1) := by decide +kernel
theorem own_d2_55 : decode method_3_code 55 = .ok (.ifCond .lt 7, 3) := by decide +kernel
theorem own_d2_58 : decode method_3_code 58 = .ok (.iconst 1, 1) := by decide +kernel
theorem own_d2_59 : decode method_3_code 59 = .ok (.goto 4, 3) := by decide +kernel
theorem own_d2_62 : decode method_3_code 62 = .ok (.iconst 0, 1) := by decide +kernel
theorem own_d2_63 : decode method_3_code 63 = .ok (.ireturn, 1) := by decide +kernel
theorem own_ef2 (m : MethodId) (x0 : Int32) (x1 : Int32) : entryFrame m #[(.int x0), (.int x1)] 8 = mkF m 0 #[.val (.int x0), .val (.int x1), .unset, .unset, .unset, .unset, .unset, .unset] [] := by first | (simp [entryFrame, mkF, argsToLocals, Value.category]; done) | rfl
def own_Q2 (Z : State) (pt : Int32) (cp : Int32) (h0 : Heap) (n0 : Nat) (v : Option Value) (h : Heap) (L : List Loc) : Prop := v = some (.int (own_b (own_ex pt cp))) ∧ L = [] ∧ h = h0
theorem own_pn1 : plainName "com/example/siteward/siteward/assignment/KnapsackFitsPinLaw" = true := by first | (simp [plainName, overriddenIn]; done) | decide +kernel
set_option maxHeartbeats 40000000 in
theorem own_rm2 (l : Launch) (Z : State) (a0 : Array Value) (hw : ∀ d ∈ tables_1, d.before a0 Z = true) (ws : List Jvm.Cond) (pt : Int32) (cp : Int32) (h0 : Heap) (n0 : Nat) (Z0 : n0 ≤ h0.size) :
    MetFree l (⟨"com/example/siteward/siteward/assignment/KnapsackFitsPinLaw", "expected", "(II)Z"⟩ : MethodName) (head1 (Jvm.Cond.code (⟨"com/example/siteward/siteward/assignment/KnapsackFitsPinLaw", "expected", "(II)Z"⟩ : MethodName) method_3_code 8 (some .boolean) :: ws) ({ frames := 0, cells := 0, slots := 0, locals := 0 } : Room)) (fun argv U => argv = #[(.int pt), (.int cp)] ∧ Z.Warmed39 U.vm ∧ U.heap = h0) (fun _ _ _ _ _ => True) (fun _ U o U' => ∃ v L, o = .returned v ∧ own_Q2 Z pt cp h0 n0 v U'.heap L ∧ FrameEnd U o U' L ({ frames := 0, cells := 0, slots := 0, locals := 0 } : Room).cells ({ frames := 0, cells := 0, slots := 0, locals := 0 } : Room).slots) := by
  refine MetFree.of_bodySF (plainFor_of_name own_pn1) hisR ?_
  intro p e s m args below meth c s₁ Bd hml0 hP hK
  obtain ⟨rfl, hZ, hh⟩ := hP
  have hx := Bd.exec
  have hby := Bd.bytes
  have hml : c.maxLocals = 8 := hml0
  have hown : s.vm.findClass "com/example/siteward/siteward/assignment/KnapsackFitsPinLaw" = some m.cls := findClass_of_methodNamed Bd.named
  have hnm := (name_of_methodNamed Bd.named Bd.method).1
  have X0 : Stand p l e ({ frames := 0, cells := 0, slots := 0, locals := 0 } : Room) s m #[(.int pt), (.int cp)] below meth c s₁ [] 0 0 := Stand.of_body Bd
  have e0 : s₁.heap = h0 := by rw [← hh, Bd.state]; rfl
  have N0 := Fr.nil n0
  have pre0 : ∀ t, Steps p.tables e below (s₁.setTop (mkF m 0 #[.val (.int pt), .val (.int cp), .unset, .unset, .unset, .unset, .unset, .unset] [])) t → Steps p.tables e below (s₁.setTop (entryFrame m #[(.int pt), (.int cp)] 8)) t := fun t k => castTop (own_ef2 m pt cp) k
  have S1 : ∀ t, Steps p.tables e below (s₁.setTop (mkF m 18 #[.val (.int pt), .val (.int cp), .val (.long (1048576 : Int64)), .second, .val (.long (pt.toInt64)), .second, .val (.long ((cp.toInt64) + (1 : Int64))), .second] [(.int (lcmpW (pt.toInt64) (0 : Int64)))])) t → Steps p.tables e below (s₁.setTop (entryFrame m #[(.int pt), (.int cp)] 8)) t := fun t kt => by
    refine pre0 t ?_
    show Steps p.tables e below (s₁.setTop (mkF m 0 #[.val (.int pt), .val (.int cp), .unset, .unset, .unset, .unset, .unset, .unset] [])) t
    refine X0.ldc2Long hx hown (mvT hZ (hw _ (List.mem_of_getElem? (i := 9) rfl))) (g := (mkF m 0 #[.val (.int pt), .val (.int cp), .unset, .unset, .unset, .unset, .unset, .unset] [])) rfl (hb hby own_d2_0) _ ?_
    show Steps p.tables e below (s₁.setTop (mkF m 3 #[.val (.int pt), .val (.int cp), .unset, .unset, .unset, .unset, .unset, .unset] [(.long (1048576 : Int64))])) t
    refine XS.lstoreN X0.here hx rfl (hb hby own_d2_3) rfl (l' := #[.val (.int pt), .val (.int cp), .val (.long (1048576 : Int64)), .second, .unset, .unset, .unset, .unset]) rfl ?_
    show Steps p.tables e below (s₁.setTop (mkF m 4 #[.val (.int pt), .val (.int cp), .val (.long (1048576 : Int64)), .second, .unset, .unset, .unset, .unset] [])) t
    refine XS.iloadN X0.here hx rfl (hb hby own_d2_4) rfl ?_
    show Steps p.tables e below (s₁.setTop (mkF m 5 #[.val (.int pt), .val (.int cp), .val (.long (1048576 : Int64)), .second, .unset, .unset, .unset, .unset] [(.int pt)])) t
    refine XS.i2l X0.here hx rfl (hb hby own_d2_5) rfl ?_
    show Steps p.tables e below (s₁.setTop (mkF m 6 #[.val (.int pt), .val (.int cp), .val (.long (1048576 : Int64)), .second, .unset, .unset, .unset, .unset] [(.long (pt.toInt64))])) t
    refine XS.lstore X0.here hx rfl (hb hby own_d2_6) rfl (l' := #[.val (.int pt), .val (.int cp), .val (.long (1048576 : Int64)), .second, .val (.long (pt.toInt64)), .second, .unset, .unset]) rfl ?_
    show Steps p.tables e below (s₁.setTop (mkF m 8 #[.val (.int pt), .val (.int cp), .val (.long (1048576 : Int64)), .second, .val (.long (pt.toInt64)), .second, .unset, .unset] [])) t
    refine XS.iloadN X0.here hx rfl (hb hby own_d2_8) rfl ?_
    show Steps p.tables e below (s₁.setTop (mkF m 9 #[.val (.int pt), .val (.int cp), .val (.long (1048576 : Int64)), .second, .val (.long (pt.toInt64)), .second, .unset, .unset] [(.int cp)])) t
    refine XS.i2l X0.here hx rfl (hb hby own_d2_9) rfl ?_
    show Steps p.tables e below (s₁.setTop (mkF m 10 #[.val (.int pt), .val (.int cp), .val (.long (1048576 : Int64)), .second, .val (.long (pt.toInt64)), .second, .unset, .unset] [(.long (cp.toInt64))])) t
    refine XS.lconst X0.here hx rfl (hb hby own_d2_10) ?_
    show Steps p.tables e below (s₁.setTop (mkF m 11 #[.val (.int pt), .val (.int cp), .val (.long (1048576 : Int64)), .second, .val (.long (pt.toInt64)), .second, .unset, .unset] [(.long (1 : Int64)), (.long (cp.toInt64))])) t
    refine XS.ladd X0.here hx rfl (hb hby own_d2_11) rfl ?_
    show Steps p.tables e below (s₁.setTop (mkF m 12 #[.val (.int pt), .val (.int cp), .val (.long (1048576 : Int64)), .second, .val (.long (pt.toInt64)), .second, .unset, .unset] [(.long ((cp.toInt64) + (1 : Int64)))])) t
    refine XS.lstore X0.here hx rfl (hb hby own_d2_12) rfl (l' := #[.val (.int pt), .val (.int cp), .val (.long (1048576 : Int64)), .second, .val (.long (pt.toInt64)), .second, .val (.long ((cp.toInt64) + (1 : Int64))), .second]) rfl ?_
    show Steps p.tables e below (s₁.setTop (mkF m 14 #[.val (.int pt), .val (.int cp), .val (.long (1048576 : Int64)), .second, .val (.long (pt.toInt64)), .second, .val (.long ((cp.toInt64) + (1 : Int64))), .second] [])) t
    refine XS.lload X0.here hx rfl (hb hby own_d2_14) rfl ?_
    show Steps p.tables e below (s₁.setTop (mkF m 16 #[.val (.int pt), .val (.int cp), .val (.long (1048576 : Int64)), .second, .val (.long (pt.toInt64)), .second, .val (.long ((cp.toInt64) + (1 : Int64))), .second] [(.long (pt.toInt64))])) t
    refine XS.lconst X0.here hx rfl (hb hby own_d2_16) ?_
    show Steps p.tables e below (s₁.setTop (mkF m 17 #[.val (.int pt), .val (.int cp), .val (.long (1048576 : Int64)), .second, .val (.long (pt.toInt64)), .second, .val (.long ((cp.toInt64) + (1 : Int64))), .second] [(.long (0 : Int64)), (.long (pt.toInt64))])) t
    refine XS.lcmp X0.here hx rfl (hb hby own_d2_17) rfl ?_
    exact kt
  by_cases hc18 : (pt.toInt64) = (0 : Int64)
  · skip
    have S2 : ∀ t, Steps p.tables e below (s₁.setTop (mkF m 22 #[.val (.int pt), .val (.int cp), .val (.long (1048576 : Int64)), .second, .val (.long (pt.toInt64)), .second, .val (.long ((cp.toInt64) + (1 : Int64))), .second] [(.int (1 : Int32))])) t → Steps p.tables e below (s₁.setTop (entryFrame m #[(.int pt), (.int cp)] 8)) t := fun t kt => by
      refine S1 t ?_
      show Steps p.tables e below (s₁.setTop (mkF m 18 #[.val (.int pt), .val (.int cp), .val (.long (1048576 : Int64)), .second, .val (.long (pt.toInt64)), .second, .val (.long ((cp.toInt64) + (1 : Int64))), .second] [(.int (lcmpW (pt.toInt64) (0 : Int64)))])) t
      refine XS.ifNo X0.here hx rfl (hb hby own_d2_18) rfl (own_Leq hc18).2 ?_
      show Steps p.tables e below (s₁.setTop (mkF m 21 #[.val (.int pt), .val (.int cp), .val (.long (1048576 : Int64)), .second, .val (.long (pt.toInt64)), .second, .val (.long ((cp.toInt64) + (1 : Int64))), .second] [])) t
      refine XS.iconst X0.here hx rfl (hb hby own_d2_21) ?_
      exact kt
    obtain ⟨fs, hr, hrun, hended, hW, hsame⟩ := X0.leave (v := some (.int (nar .boolean (1 : Int32)))) (fun h => by rw [Bd.returns] at h; cases h)
    refine ⟨_, _, S2 _ ?_, hrun, hended, _, _, rfl, ?_, ⟨_, rfl⟩, hW, hsame.mono (by decide) (by decide)⟩
    · show Steps p.tables e below (s₁.setTop (mkF m 22 #[.val (.int pt), .val (.int cp), .val (.long (1048576 : Int64)), .second, .val (.long (pt.toInt64)), .second, .val (.long ((cp.toInt64) + (1 : Int64))), .second] [(.int (1 : Int32))])) _
      exact retN X0 hx (t := .boolean) Bd.returns (by simp) (hb hby own_d2_22) hr
    · show own_Q2 Z pt cp h0 n0 _ s₁.heap _
      rw [e0]
      exact ⟨own_leafT (by simp only [own_ex, decide_true, decide_false, not_true_eq_false, not_false_eq_true, and_true, true_and, and_false, false_and, and_self, or_true, true_or, or_false, false_or, or_self, if_true, if_false, Bool.not_true, Bool.not_false, Bool.and_true, Bool.true_and, Bool.and_false, Bool.false_and, *]), rfl, rfl⟩
  · skip
    have S3 : ∀ t, Steps p.tables e below (s₁.setTop (mkF m 27 #[.val (.int pt), .val (.int cp), .val (.long (1048576 : Int64)), .second, .val (.long (pt.toInt64)), .second, .val (.long ((cp.toInt64) + (1 : Int64))), .second] [(.int (lcmpW (pt.toInt64) (0 : Int64)))])) t → Steps p.tables e below (s₁.setTop (entryFrame m #[(.int pt), (.int cp)] 8)) t := fun t kt => by
      refine S1 t ?_
      show Steps p.tables e below (s₁.setTop (mkF m 18 #[.val (.int pt), .val (.int cp), .val (.long (1048576 : Int64)), .second, .val (.long (pt.toInt64)), .second, .val (.long ((cp.toInt64) + (1 : Int64))), .second] [(.int (lcmpW (pt.toInt64) (0 : Int64)))])) t
      refine XS.ifYes X0.here hx rfl (pc0 := 18) (pc' := 23) rfl (hb hby own_d2_18) rfl (own_Lne hc18).2 (by decide) (by decide) ?_
      show Steps p.tables e below (s₁.setTop (mkF m 23 #[.val (.int pt), .val (.int cp), .val (.long (1048576 : Int64)), .second, .val (.long (pt.toInt64)), .second, .val (.long ((cp.toInt64) + (1 : Int64))), .second] [])) t
      refine XS.lload X0.here hx rfl (hb hby own_d2_23) rfl ?_
      show Steps p.tables e below (s₁.setTop (mkF m 25 #[.val (.int pt), .val (.int cp), .val (.long (1048576 : Int64)), .second, .val (.long (pt.toInt64)), .second, .val (.long ((cp.toInt64) + (1 : Int64))), .second] [(.long (pt.toInt64))])) t
      refine XS.lconst X0.here hx rfl (hb hby own_d2_25) ?_
      show Steps p.tables e below (s₁.setTop (mkF m 26 #[.val (.int pt), .val (.int cp), .val (.long (1048576 : Int64)), .second, .val (.long (pt.toInt64)), .second, .val (.long ((cp.toInt64) + (1 : Int64))), .second] [(.long (0 : Int64)), (.long (pt.toInt64))])) t
      refine XS.lcmp X0.here hx rfl (hb hby own_d2_26) rfl ?_
      exact kt
    by_cases hc27 : (0 : Int64) < (pt.toInt64)
    · skip
      have S4 : ∀ t, Steps p.tables e below (s₁.setTop (mkF m 37 #[.val (.int pt), .val (.int cp), .val (.long (1048576 : Int64)), .second, .val (.long (pt.toInt64)), .second, .val (.long ((cp.toInt64) + (1 : Int64))), .second] [(.int (lcmpW ((cp.toInt64) + (1 : Int64)) ((1048576 : Int64) / (pt.toInt64))))])) t → Steps p.tables e below (s₁.setTop (entryFrame m #[(.int pt), (.int cp)] 8)) t := fun t kt => by
        refine S3 t ?_
        show Steps p.tables e below (s₁.setTop (mkF m 27 #[.val (.int pt), .val (.int cp), .val (.long (1048576 : Int64)), .second, .val (.long (pt.toInt64)), .second, .val (.long ((cp.toInt64) + (1 : Int64))), .second] [(.int (lcmpW (pt.toInt64) (0 : Int64)))])) t
        refine XS.ifNo X0.here hx rfl (hb hby own_d2_27) rfl (own_Llt hc27).2.2.2 ?_
        show Steps p.tables e below (s₁.setTop (mkF m 30 #[.val (.int pt), .val (.int cp), .val (.long (1048576 : Int64)), .second, .val (.long (pt.toInt64)), .second, .val (.long ((cp.toInt64) + (1 : Int64))), .second] [])) t
        refine XS.lload X0.here hx rfl (hb hby own_d2_30) rfl ?_
        show Steps p.tables e below (s₁.setTop (mkF m 32 #[.val (.int pt), .val (.int cp), .val (.long (1048576 : Int64)), .second, .val (.long (pt.toInt64)), .second, .val (.long ((cp.toInt64) + (1 : Int64))), .second] [(.long ((cp.toInt64) + (1 : Int64)))])) t
        refine XS.lloadN X0.here hx rfl (hb hby own_d2_32) rfl ?_
        show Steps p.tables e below (s₁.setTop (mkF m 33 #[.val (.int pt), .val (.int cp), .val (.long (1048576 : Int64)), .second, .val (.long (pt.toInt64)), .second, .val (.long ((cp.toInt64) + (1 : Int64))), .second] [(.long (1048576 : Int64)), (.long ((cp.toInt64) + (1 : Int64)))])) t
        refine XS.lload X0.here hx rfl (hb hby own_d2_33) rfl ?_
        show Steps p.tables e below (s₁.setTop (mkF m 35 #[.val (.int pt), .val (.int cp), .val (.long (1048576 : Int64)), .second, .val (.long (pt.toInt64)), .second, .val (.long ((cp.toInt64) + (1 : Int64))), .second] [(.long (pt.toInt64)), (.long (1048576 : Int64)), (.long ((cp.toInt64) + (1 : Int64)))])) t
        refine XS.ldiv X0.here hx rfl (hb hby own_d2_35) rfl hc18 ?_
        show Steps p.tables e below (s₁.setTop (mkF m 36 #[.val (.int pt), .val (.int cp), .val (.long (1048576 : Int64)), .second, .val (.long (pt.toInt64)), .second, .val (.long ((cp.toInt64) + (1 : Int64))), .second] [(.long ((1048576 : Int64) / (pt.toInt64))), (.long ((cp.toInt64) + (1 : Int64)))])) t
        refine XS.lcmp X0.here hx rfl (hb hby own_d2_36) rfl ?_
        exact kt
      by_cases hc37 : ((1048576 : Int64) / (pt.toInt64)) < ((cp.toInt64) + (1 : Int64))
      · skip
        have S5 : ∀ t, Steps p.tables e below (s₁.setTop (mkF m 45 #[.val (.int pt), .val (.int cp), .val (.long (1048576 : Int64)), .second, .val (.long (pt.toInt64)), .second, .val (.long ((cp.toInt64) + (1 : Int64))), .second] [(.int (0 : Int32))])) t → Steps p.tables e below (s₁.setTop (entryFrame m #[(.int pt), (.int cp)] 8)) t := fun t kt => by
          refine S4 t ?_
          show Steps p.tables e below (s₁.setTop (mkF m 37 #[.val (.int pt), .val (.int cp), .val (.long (1048576 : Int64)), .second, .val (.long (pt.toInt64)), .second, .val (.long ((cp.toInt64) + (1 : Int64))), .second] [(.int (lcmpW ((cp.toInt64) + (1 : Int64)) ((1048576 : Int64) / (pt.toInt64))))])) t
          refine XS.ifYes X0.here hx rfl (pc0 := 37) (pc' := 44) rfl (hb hby own_d2_37) rfl (own_Llt hc37).2.2.1 (by decide) (by decide) ?_
          show Steps p.tables e below (s₁.setTop (mkF m 44 #[.val (.int pt), .val (.int cp), .val (.long (1048576 : Int64)), .second, .val (.long (pt.toInt64)), .second, .val (.long ((cp.toInt64) + (1 : Int64))), .second] [])) t
          refine XS.iconst X0.here hx rfl (hb hby own_d2_44) ?_
          exact kt
        obtain ⟨fs, hr, hrun, hended, hW, hsame⟩ := X0.leave (v := some (.int (nar .boolean (0 : Int32)))) (fun h => by rw [Bd.returns] at h; cases h)
        refine ⟨_, _, S5 _ ?_, hrun, hended, _, _, rfl, ?_, ⟨_, rfl⟩, hW, hsame.mono (by decide) (by decide)⟩
        · show Steps p.tables e below (s₁.setTop (mkF m 45 #[.val (.int pt), .val (.int cp), .val (.long (1048576 : Int64)), .second, .val (.long (pt.toInt64)), .second, .val (.long ((cp.toInt64) + (1 : Int64))), .second] [(.int (0 : Int32))])) _
          exact retN X0 hx (t := .boolean) Bd.returns (by simp) (hb hby own_d2_45) hr
        · show own_Q2 Z pt cp h0 n0 _ s₁.heap _
          rw [e0]
          exact ⟨own_leafF (by simp only [own_ex, decide_true, decide_false, not_true_eq_false, not_false_eq_true, and_true, true_and, and_false, false_and, and_self, or_true, true_or, or_false, false_or, or_self, if_true, if_false, Bool.not_true, Bool.not_false, Bool.and_true, Bool.true_and, Bool.and_false, Bool.false_and, *]), rfl, rfl⟩
      · skip
        have S6 : ∀ t, Steps p.tables e below (s₁.setTop (mkF m 45 #[.val (.int pt), .val (.int cp), .val (.long (1048576 : Int64)), .second, .val (.long (pt.toInt64)), .second, .val (.long ((cp.toInt64) + (1 : Int64))), .second] [(.int (1 : Int32))])) t → Steps p.tables e below (s₁.setTop (entryFrame m #[(.int pt), (.int cp)] 8)) t := fun t kt => by
          refine S4 t ?_
          show Steps p.tables e below (s₁.setTop (mkF m 37 #[.val (.int pt), .val (.int cp), .val (.long (1048576 : Int64)), .second, .val (.long (pt.toInt64)), .second, .val (.long ((cp.toInt64) + (1 : Int64))), .second] [(.int (lcmpW ((cp.toInt64) + (1 : Int64)) ((1048576 : Int64) / (pt.toInt64))))])) t
          refine XS.ifNo X0.here hx rfl (hb hby own_d2_37) rfl (own_Lnl hc37).2.2.1 ?_
          show Steps p.tables e below (s₁.setTop (mkF m 40 #[.val (.int pt), .val (.int cp), .val (.long (1048576 : Int64)), .second, .val (.long (pt.toInt64)), .second, .val (.long ((cp.toInt64) + (1 : Int64))), .second] [])) t
          refine XS.iconst X0.here hx rfl (hb hby own_d2_40) ?_
          show Steps p.tables e below (s₁.setTop (mkF m 41 #[.val (.int pt), .val (.int cp), .val (.long (1048576 : Int64)), .second, .val (.long (pt.toInt64)), .second, .val (.long ((cp.toInt64) + (1 : Int64))), .second] [(.int (1 : Int32))])) t
          refine XS.goto X0.here hx rfl (pc0 := 41) (pc' := 45) rfl (hb hby own_d2_41) (by decide) (by decide) ?_
          exact kt
        obtain ⟨fs, hr, hrun, hended, hW, hsame⟩ := X0.leave (v := some (.int (nar .boolean (1 : Int32)))) (fun h => by rw [Bd.returns] at h; cases h)
        refine ⟨_, _, S6 _ ?_, hrun, hended, _, _, rfl, ?_, ⟨_, rfl⟩, hW, hsame.mono (by decide) (by decide)⟩
        · show Steps p.tables e below (s₁.setTop (mkF m 45 #[.val (.int pt), .val (.int cp), .val (.long (1048576 : Int64)), .second, .val (.long (pt.toInt64)), .second, .val (.long ((cp.toInt64) + (1 : Int64))), .second] [(.int (1 : Int32))])) _
          exact retN X0 hx (t := .boolean) Bd.returns (by simp) (hb hby own_d2_45) hr
        · show own_Q2 Z pt cp h0 n0 _ s₁.heap _
          rw [e0]
          exact ⟨own_leafT (by simp only [own_ex, decide_true, decide_false, not_true_eq_false, not_false_eq_true, and_true, true_and, and_false, false_and, and_self, or_true, true_or, or_false, false_or, or_self, if_true, if_false, Bool.not_true, Bool.not_false, Bool.and_true, Bool.true_and, Bool.and_false, Bool.false_and, *]), rfl, rfl⟩
    · skip
      have S7 : ∀ t, Steps p.tables e below (s₁.setTop (mkF m 55 #[.val (.int pt), .val (.int cp), .val (.long (1048576 : Int64)), .second, .val (.long (pt.toInt64)), .second, .val (.long ((cp.toInt64) + (1 : Int64))), .second] [(.int (lcmpW ((cp.toInt64) + (1 : Int64)) (-((1048576 : Int64) / (-(pt.toInt64))))))])) t → Steps p.tables e below (s₁.setTop (entryFrame m #[(.int pt), (.int cp)] 8)) t := fun t kt => by
        refine S3 t ?_
        show Steps p.tables e below (s₁.setTop (mkF m 27 #[.val (.int pt), .val (.int cp), .val (.long (1048576 : Int64)), .second, .val (.long (pt.toInt64)), .second, .val (.long ((cp.toInt64) + (1 : Int64))), .second] [(.int (lcmpW (pt.toInt64) (0 : Int64)))])) t
        refine XS.ifYes X0.here hx rfl (pc0 := 27) (pc' := 46) rfl (hb hby own_d2_27) rfl (own_Lnl hc27).2.2.2 (by decide) (by decide) ?_
        show Steps p.tables e below (s₁.setTop (mkF m 46 #[.val (.int pt), .val (.int cp), .val (.long (1048576 : Int64)), .second, .val (.long (pt.toInt64)), .second, .val (.long ((cp.toInt64) + (1 : Int64))), .second] [])) t
        refine XS.lload X0.here hx rfl (hb hby own_d2_46) rfl ?_
        show Steps p.tables e below (s₁.setTop (mkF m 48 #[.val (.int pt), .val (.int cp), .val (.long (1048576 : Int64)), .second, .val (.long (pt.toInt64)), .second, .val (.long ((cp.toInt64) + (1 : Int64))), .second] [(.long ((cp.toInt64) + (1 : Int64)))])) t
        refine XS.lloadN X0.here hx rfl (hb hby own_d2_48) rfl ?_
        show Steps p.tables e below (s₁.setTop (mkF m 49 #[.val (.int pt), .val (.int cp), .val (.long (1048576 : Int64)), .second, .val (.long (pt.toInt64)), .second, .val (.long ((cp.toInt64) + (1 : Int64))), .second] [(.long (1048576 : Int64)), (.long ((cp.toInt64) + (1 : Int64)))])) t
        refine XS.lload X0.here hx rfl (hb hby own_d2_49) rfl ?_
        show Steps p.tables e below (s₁.setTop (mkF m 51 #[.val (.int pt), .val (.int cp), .val (.long (1048576 : Int64)), .second, .val (.long (pt.toInt64)), .second, .val (.long ((cp.toInt64) + (1 : Int64))), .second] [(.long (pt.toInt64)), (.long (1048576 : Int64)), (.long ((cp.toInt64) + (1 : Int64)))])) t
        refine XS.lneg X0.here hx rfl (hb hby own_d2_51) rfl ?_
        show Steps p.tables e below (s₁.setTop (mkF m 52 #[.val (.int pt), .val (.int cp), .val (.long (1048576 : Int64)), .second, .val (.long (pt.toInt64)), .second, .val (.long ((cp.toInt64) + (1 : Int64))), .second] [(.long (-(pt.toInt64))), (.long (1048576 : Int64)), (.long ((cp.toInt64) + (1 : Int64)))])) t
        refine XS.ldiv X0.here hx rfl (hb hby own_d2_52) rfl (own_negnz hc18) ?_
        show Steps p.tables e below (s₁.setTop (mkF m 53 #[.val (.int pt), .val (.int cp), .val (.long (1048576 : Int64)), .second, .val (.long (pt.toInt64)), .second, .val (.long ((cp.toInt64) + (1 : Int64))), .second] [(.long ((1048576 : Int64) / (-(pt.toInt64)))), (.long ((cp.toInt64) + (1 : Int64)))])) t
        refine XS.lneg X0.here hx rfl (hb hby own_d2_53) rfl ?_
        show Steps p.tables e below (s₁.setTop (mkF m 54 #[.val (.int pt), .val (.int cp), .val (.long (1048576 : Int64)), .second, .val (.long (pt.toInt64)), .second, .val (.long ((cp.toInt64) + (1 : Int64))), .second] [(.long (-((1048576 : Int64) / (-(pt.toInt64))))), (.long ((cp.toInt64) + (1 : Int64)))])) t
        refine XS.lcmp X0.here hx rfl (hb hby own_d2_54) rfl ?_
        exact kt
      by_cases hc55 : ((cp.toInt64) + (1 : Int64)) < (-((1048576 : Int64) / (-(pt.toInt64))))
      · skip
        have S8 : ∀ t, Steps p.tables e below (s₁.setTop (mkF m 63 #[.val (.int pt), .val (.int cp), .val (.long (1048576 : Int64)), .second, .val (.long (pt.toInt64)), .second, .val (.long ((cp.toInt64) + (1 : Int64))), .second] [(.int (0 : Int32))])) t → Steps p.tables e below (s₁.setTop (entryFrame m #[(.int pt), (.int cp)] 8)) t := fun t kt => by
          refine S7 t ?_
          show Steps p.tables e below (s₁.setTop (mkF m 55 #[.val (.int pt), .val (.int cp), .val (.long (1048576 : Int64)), .second, .val (.long (pt.toInt64)), .second, .val (.long ((cp.toInt64) + (1 : Int64))), .second] [(.int (lcmpW ((cp.toInt64) + (1 : Int64)) (-((1048576 : Int64) / (-(pt.toInt64))))))])) t
          refine XS.ifYes X0.here hx rfl (pc0 := 55) (pc' := 62) rfl (hb hby own_d2_55) rfl (own_Llt hc55).1 (by decide) (by decide) ?_
          show Steps p.tables e below (s₁.setTop (mkF m 62 #[.val (.int pt), .val (.int cp), .val (.long (1048576 : Int64)), .second, .val (.long (pt.toInt64)), .second, .val (.long ((cp.toInt64) + (1 : Int64))), .second] [])) t
          refine XS.iconst X0.here hx rfl (hb hby own_d2_62) ?_
          exact kt
        obtain ⟨fs, hr, hrun, hended, hW, hsame⟩ := X0.leave (v := some (.int (nar .boolean (0 : Int32)))) (fun h => by rw [Bd.returns] at h; cases h)
        refine ⟨_, _, S8 _ ?_, hrun, hended, _, _, rfl, ?_, ⟨_, rfl⟩, hW, hsame.mono (by decide) (by decide)⟩
        · show Steps p.tables e below (s₁.setTop (mkF m 63 #[.val (.int pt), .val (.int cp), .val (.long (1048576 : Int64)), .second, .val (.long (pt.toInt64)), .second, .val (.long ((cp.toInt64) + (1 : Int64))), .second] [(.int (0 : Int32))])) _
          exact retN X0 hx (t := .boolean) Bd.returns (by simp) (hb hby own_d2_63) hr
        · show own_Q2 Z pt cp h0 n0 _ s₁.heap _
          rw [e0]
          exact ⟨own_leafF (by simp only [own_ex, decide_true, decide_false, not_true_eq_false, not_false_eq_true, and_true, true_and, and_false, false_and, and_self, or_true, true_or, or_false, false_or, or_self, if_true, if_false, Bool.not_true, Bool.not_false, Bool.and_true, Bool.true_and, Bool.and_false, Bool.false_and, *]), rfl, rfl⟩
      · skip
        have S9 : ∀ t, Steps p.tables e below (s₁.setTop (mkF m 63 #[.val (.int pt), .val (.int cp), .val (.long (1048576 : Int64)), .second, .val (.long (pt.toInt64)), .second, .val (.long ((cp.toInt64) + (1 : Int64))), .second] [(.int (1 : Int32))])) t → Steps p.tables e below (s₁.setTop (entryFrame m #[(.int pt), (.int cp)] 8)) t := fun t kt => by
          refine S7 t ?_
          show Steps p.tables e below (s₁.setTop (mkF m 55 #[.val (.int pt), .val (.int cp), .val (.long (1048576 : Int64)), .second, .val (.long (pt.toInt64)), .second, .val (.long ((cp.toInt64) + (1 : Int64))), .second] [(.int (lcmpW ((cp.toInt64) + (1 : Int64)) (-((1048576 : Int64) / (-(pt.toInt64))))))])) t
          refine XS.ifNo X0.here hx rfl (hb hby own_d2_55) rfl (own_Lnl hc55).1 ?_
          show Steps p.tables e below (s₁.setTop (mkF m 58 #[.val (.int pt), .val (.int cp), .val (.long (1048576 : Int64)), .second, .val (.long (pt.toInt64)), .second, .val (.long ((cp.toInt64) + (1 : Int64))), .second] [])) t
          refine XS.iconst X0.here hx rfl (hb hby own_d2_58) ?_
          show Steps p.tables e below (s₁.setTop (mkF m 59 #[.val (.int pt), .val (.int cp), .val (.long (1048576 : Int64)), .second, .val (.long (pt.toInt64)), .second, .val (.long ((cp.toInt64) + (1 : Int64))), .second] [(.int (1 : Int32))])) t
          refine XS.goto X0.here hx rfl (pc0 := 59) (pc' := 63) rfl (hb hby own_d2_59) (by decide) (by decide) ?_
          exact kt
        obtain ⟨fs, hr, hrun, hended, hW, hsame⟩ := X0.leave (v := some (.int (nar .boolean (1 : Int32)))) (fun h => by rw [Bd.returns] at h; cases h)
        refine ⟨_, _, S9 _ ?_, hrun, hended, _, _, rfl, ?_, ⟨_, rfl⟩, hW, hsame.mono (by decide) (by decide)⟩
        · show Steps p.tables e below (s₁.setTop (mkF m 63 #[.val (.int pt), .val (.int cp), .val (.long (1048576 : Int64)), .second, .val (.long (pt.toInt64)), .second, .val (.long ((cp.toInt64) + (1 : Int64))), .second] [(.int (1 : Int32))])) _
          exact retN X0 hx (t := .boolean) Bd.returns (by simp) (hb hby own_d2_63) hr
        · show own_Q2 Z pt cp h0 n0 _ s₁.heap _
          rw [e0]
          exact ⟨own_leafT (by simp only [own_ex, decide_true, decide_false, not_true_eq_false, not_false_eq_true, and_true, true_and, and_false, false_and, and_self, or_true, true_or, or_false, false_or, or_self, if_true, if_false, Bool.not_true, Bool.not_false, Bool.and_true, Bool.true_and, Bool.and_false, Bool.false_and, *]), rfl, rfl⟩
theorem own_pd0 : parseMethodDescriptor "(ID)Z" = some ⟨[.int, .double], some .boolean⟩ := by decide +kernel
theorem own_pd1 : parseMethodDescriptor "(II)Z" = some ⟨[.int, .int], some .boolean⟩ := by decide +kernel
theorem own_ef0 (m : MethodId) (x0 : Int32) (x1 : Int32) : entryFrame m #[(.int x0), (.int x1)] maxLocals = mkF m 0 #[.val (.int x0), .val (.int x1), .unset, .unset, .unset] [] := by first | (simp [entryFrame, mkF, argsToLocals, Value.category, maxLocals]; done) | rfl
def own_Q0 (Z : State) (pt : Int32) (cp : Int32) (h0 : Heap) (n0 : Nat) (v : Option Value) (h : Heap) (L : List Loc) : Prop := v = some (.int (1 : Int32)) ∧ Fr n0 L
set_option maxHeartbeats 40000000 in
theorem own_rm0 (l : Launch) (Z : State) (a0 : Array Value) (hw : ∀ d ∈ tables_1, d.before a0 Z = true) (ws : List Jvm.Cond) (pt : Int32) (cp : Int32) (h0 : Heap) (n0 : Nat) (Z0 : n0 ≤ h0.size) :
    MetFree l x (head1 (Jvm.Cond.code x code maxLocals ret :: ws) room_1) (fun argv U => argv = #[(.int pt), (.int cp)] ∧ Z.Warmed39 U.vm ∧ U.heap = h0) (fun _ _ _ _ _ => True) (fun _ U o U' => ∃ v L, o = .returned v ∧ own_Q0 Z pt cp h0 n0 v U'.heap L ∧ FrameEnd U o U' L room_1.cells room_1.slots) := by
  refine MetFree.of_bodySF (plainFor_of_name own_pn1) hisR ?_
  intro p e s m args below meth c s₁ Bd hml0 hP hK
  obtain ⟨rfl, hZ, hh⟩ := hP
  have hx := Bd.exec
  have hby := Bd.bytes
  have hml : c.maxLocals = 5 := hml0
  have hown : s.vm.findClass "com/example/siteward/siteward/assignment/KnapsackFitsPinLaw" = some m.cls := findClass_of_methodNamed Bd.named
  have hnm := (name_of_methodNamed Bd.named Bd.method).1
  have X0 : Stand p l e room_1 s m #[(.int pt), (.int cp)] below meth c s₁ [] 0 0 := Stand.of_body Bd
  have e0 : s₁.heap = h0 := by rw [← hh, Bd.state]; rfl
  have N0 := Fr.nil n0
  have pre0 : ∀ t, Steps p.tables e below (s₁.setTop (mkF m 0 #[.val (.int pt), .val (.int cp), .unset, .unset, .unset] [])) t → Steps p.tables e below (s₁.setTop (entryFrame m #[(.int pt), (.int cp)] maxLocals)) t := fun t k => castTop (own_ef0 m pt cp) k
  have S2 : ∀ t, Steps p.tables e below (s₁.setTop (mkF m 5 #[.val (.int pt), .val (.int cp), .val (.double (FP.i2d cp)), .second, .unset] [(.double (FP.i2d cp)), (.int pt)])) t → Steps p.tables e below (s₁.setTop (entryFrame m #[(.int pt), (.int cp)] maxLocals)) t := fun t kt => by
    refine pre0 t ?_
    show Steps p.tables e below (s₁.setTop (mkF m 0 #[.val (.int pt), .val (.int cp), .unset, .unset, .unset] [])) t
    refine XS.iloadN X0.here hx rfl (hb hby at_0) rfl ?_
    show Steps p.tables e below (s₁.setTop (mkF m 1 #[.val (.int pt), .val (.int cp), .unset, .unset, .unset] [(.int cp)])) t
    jvm_step X0.here [X0.here.top, hx, (hb hby at_1)]
    show Steps p.tables e below (s₁.setTop (mkF m 2 #[.val (.int pt), .val (.int cp), .unset, .unset, .unset] [(.double (FP.i2d cp))])) t
    jvm_step X0.here [X0.here.top, hx, (hb hby at_2)]
    refine ⟨#[.val (.int pt), .val (.int cp), .val (.double (FP.i2d cp)), .second, .unset], rfl, ?_⟩
    show Steps p.tables e below (s₁.setTop (mkF m 3 #[.val (.int pt), .val (.int cp), .val (.double (FP.i2d cp)), .second, .unset] [])) t
    refine XS.iloadN X0.here hx rfl (hb hby at_3) rfl ?_
    show Steps p.tables e below (s₁.setTop (mkF m 4 #[.val (.int pt), .val (.int cp), .val (.double (FP.i2d cp)), .second, .unset] [(.int pt)])) t
    jvm_step X0.here [X0.here.top, hx, (hb hby at_4)]
    exact kt
  obtain ⟨_, _, ⟨T3, L3, k3, n3⟩, -, X3, ⟨Lc3, hQ3, l3, y3, z3⟩, st3⟩ := Jvm.LawKit.callS X0 hx (y := (⟨"com/example/siteward/siteward/assignment/Knapsack", "fits", "(ID)Z"⟩ : MethodName)) hown (mvT hZ (hw _ (List.mem_of_getElem? (i := 0) rfl))) (mvT hZ (hw _ (List.mem_of_getElem? (i := 1) rfl))) (mvT hZ (hw _ (List.mem_of_getElem? (i := 2) rfl))) (mvT hZ (hw _ (List.mem_of_getElem? (i := 3) rfl))) (by decide) (backOf (W := 0) (own_rm1 l Z a0 hw [] (pt) ((FP.i2d cp)) h0 n0 Z0 (own_sumnum cp) (own_mulnum pt cp)) hZ (hw _ (List.mem_of_getElem? (i := 3) rfl)) (hw _ (List.mem_of_getElem? (i := 2) rfl)) (by decide) (by decide)) (g := (mkF m 5 #[.val (.int pt), .val (.int cp), .val (.double (FP.i2d cp)), .second, .unset] [(.double (FP.i2d cp)), (.int pt)])) rfl (by rw [hml]; rfl) (argsL := [(.int pt), (.double (FP.i2d cp))]) (rest := []) (lenOf own_pd0 rfl) rfl (by show 2 * 0 + _ ≤ _; exact Nat.le_of_eq rfl) (hb hby at_5) (fun _ _ => ⟨rfl, e0, (by decide : 0 + 0 ≤ _), (by decide : 0 + 0 ≤ _)⟩)
  dsimp only [Pt.U, Pt.locs, Pt.cells, Pt.slots] at X3 l3 y3 z3 st3 hQ3
  subst l3 y3 z3
  obtain ⟨rfl, rfl, eq1⟩ := hQ3
  try rw [List.append_nil] at X3
  have S4 : ∀ t, Steps p.tables e below (T3.setTop (mkF m 8 #[.val (.int pt), .val (.int cp), .val (.double (FP.i2d cp)), .second, .unset] [(.int (own_b (own_fit pt (FP.i2d cp))))])) t → Steps p.tables e below (s₁.setTop (entryFrame m #[(.int pt), (.int cp)] maxLocals)) t := fun t kt => S2 t (st3 _ kt)
  have S6 : ∀ t, Steps p.tables e below (T3.setTop (mkF m 14 #[.val (.int pt), .val (.int cp), .val (.double (FP.i2d cp)), .second, .val (.int (own_b (own_fit pt (FP.i2d cp))))] [(.int cp), (.int pt), (.int (own_b (own_fit pt (FP.i2d cp))))])) t → Steps p.tables e below (s₁.setTop (entryFrame m #[(.int pt), (.int cp)] maxLocals)) t := fun t kt => by
    refine S4 t ?_
    show Steps p.tables e below (T3.setTop (mkF m 8 #[.val (.int pt), .val (.int cp), .val (.double (FP.i2d cp)), .second, .unset] [(.int (own_b (own_fit pt (FP.i2d cp))))])) t
    refine XS.istore X3.here hx rfl (hb hby at_8) rfl (l' := #[.val (.int pt), .val (.int cp), .val (.double (FP.i2d cp)), .second, .val (.int (own_b (own_fit pt (FP.i2d cp))))]) rfl ?_
    show Steps p.tables e below (T3.setTop (mkF m 10 #[.val (.int pt), .val (.int cp), .val (.double (FP.i2d cp)), .second, .val (.int (own_b (own_fit pt (FP.i2d cp))))] [])) t
    refine XS.iload X3.here hx rfl (hb hby at_10) rfl ?_
    show Steps p.tables e below (T3.setTop (mkF m 12 #[.val (.int pt), .val (.int cp), .val (.double (FP.i2d cp)), .second, .val (.int (own_b (own_fit pt (FP.i2d cp))))] [(.int (own_b (own_fit pt (FP.i2d cp))))])) t
    refine XS.iloadN X3.here hx rfl (hb hby at_12) rfl ?_
    show Steps p.tables e below (T3.setTop (mkF m 13 #[.val (.int pt), .val (.int cp), .val (.double (FP.i2d cp)), .second, .val (.int (own_b (own_fit pt (FP.i2d cp))))] [(.int pt), (.int (own_b (own_fit pt (FP.i2d cp))))])) t
    refine XS.iloadN X3.here hx rfl (hb hby at_13) rfl ?_
    exact kt
  obtain ⟨_, _, ⟨T7, L7, k7, n7⟩, -, X7, ⟨Lc7, hQ7, l7, y7, z7⟩, st7⟩ := Jvm.LawKit.callS X3 hx (y := (⟨"com/example/siteward/siteward/assignment/KnapsackFitsPinLaw", "expected", "(II)Z"⟩ : MethodName)) hown (mvT hZ (hw _ (List.mem_of_getElem? (i := 5) rfl))) (mvT hZ (hw _ (List.mem_of_getElem? (i := 6) rfl))) (mvT hZ (hw _ (List.mem_of_getElem? (i := 7) rfl))) (mvT hZ (hw _ (List.mem_of_getElem? (i := 8) rfl))) (by decide) (backOf (W := 1) (own_rm2 l Z a0 hw [] (pt) (cp) h0 n0 Z0) hZ (hw _ (List.mem_of_getElem? (i := 8) rfl)) (hw _ (List.mem_of_getElem? (i := 7) rfl)) (by decide) (by decide)) (g := (mkF m 14 #[.val (.int pt), .val (.int cp), .val (.double (FP.i2d cp)), .second, .val (.int (own_b (own_fit pt (FP.i2d cp))))] [(.int cp), (.int pt), (.int (own_b (own_fit pt (FP.i2d cp))))])) rfl (by rw [hml]; rfl) (argsL := [(.int pt), (.int cp)]) (rest := [(.int (own_b (own_fit pt (FP.i2d cp))))]) (lenOf own_pd1 rfl) rfl (by show 2 * 0 + _ ≤ _; exact Nat.le_of_eq rfl) (hb hby at_14) (fun _ _ => ⟨rfl, eq1, (by decide : 0 + 0 ≤ _), (by decide : 0 + 0 ≤ _)⟩)
  dsimp only [Pt.U, Pt.locs, Pt.cells, Pt.slots] at X7 l7 y7 z7 st7 hQ7
  subst l7 y7 z7
  obtain ⟨rfl, rfl, eq5⟩ := hQ7
  try rw [List.append_nil] at X7
  have S8 : ∀ t, Steps p.tables e below (T7.setTop (mkF m 17 #[.val (.int pt), .val (.int cp), .val (.double (FP.i2d cp)), .second, .val (.int (own_b (own_fit pt (FP.i2d cp))))] [(.int (own_b (own_ex pt cp))), (.int (own_b (own_fit pt (FP.i2d cp))))])) t → Steps p.tables e below (s₁.setTop (entryFrame m #[(.int pt), (.int cp)] maxLocals)) t := fun t kt => S6 t (st7 _ kt)
  have hc17_9 : (own_b (own_fit pt (FP.i2d cp))) = (own_b (own_ex pt cp)) := own_plain pt cp
  have S10 : ∀ t, Steps p.tables e below (T7.setTop (mkF m 25 #[.val (.int pt), .val (.int cp), .val (.double (FP.i2d cp)), .second, .val (.int (own_b (own_fit pt (FP.i2d cp))))] [(.int (1 : Int32))])) t → Steps p.tables e below (s₁.setTop (entryFrame m #[(.int pt), (.int cp)] maxLocals)) t := fun t kt => by
    refine S8 t ?_
    show Steps p.tables e below (T7.setTop (mkF m 17 #[.val (.int pt), .val (.int cp), .val (.double (FP.i2d cp)), .second, .val (.int (own_b (own_fit pt (FP.i2d cp))))] [(.int (own_b (own_ex pt cp))), (.int (own_b (own_fit pt (FP.i2d cp))))])) t
    refine XS.icmpNo X7.here hx rfl (hb hby at_17) rfl (teq hc17_9).2 ?_
    show Steps p.tables e below (T7.setTop (mkF m 20 #[.val (.int pt), .val (.int cp), .val (.double (FP.i2d cp)), .second, .val (.int (own_b (own_fit pt (FP.i2d cp))))] [])) t
    refine XS.iconst X7.here hx rfl (hb hby at_20) ?_
    show Steps p.tables e below (T7.setTop (mkF m 21 #[.val (.int pt), .val (.int cp), .val (.double (FP.i2d cp)), .second, .val (.int (own_b (own_fit pt (FP.i2d cp))))] [(.int (1 : Int32))])) t
    refine XS.goto X7.here hx rfl (pc0 := 21) (pc' := 25) rfl (hb hby at_21) (by decide) (by decide) ?_
    exact kt
  obtain ⟨fs, hr, hrun, hended, hW, hsame⟩ := X7.leave (v := some (.int (nar .boolean (1 : Int32)))) (fun h => by rw [Bd.returns] at h; cases h)
  refine ⟨_, _, S10 _ ?_, hrun, hended, _, _, rfl, ?_, ⟨_, rfl⟩, hW, hsame.mono (by decide) (by decide)⟩
  · show Steps p.tables e below (T7.setTop (mkF m 25 #[.val (.int pt), .val (.int cp), .val (.double (FP.i2d cp)), .second, .val (.int (own_b (own_fit pt (FP.i2d cp))))] [(.int (1 : Int32))])) _
    exact retN X7 hx (t := .boolean) Bd.returns (by simp) (hb hby at_25) hr
  · show own_Q0 Z pt cp h0 n0 _ T7.heap _
    rw [eq5]
    exact ⟨rfl, N0⟩
set_option maxHeartbeats 40000000 in
theorem own_comes {Post : Tables → Env → Array Value → State → Outcome → State → Prop} (hpost : ∀ tb e args s v u, (limb_1_1.after args s (.returned v) u = true ∧ limb_1_2.after args s (.returned v) u = true ∧ True) → FrameEnd s (.returned v) u (Jvm.fieldLocs frame_1_writes args s ++ Jvm.arrayLocs frame_1_arrays args s ++ Jvm.staticLocs frame_1_statics s) 0 0 → Post tb e args s (.returned v) u) :
    ArmFor flags0 classFile x code maxLocals ret World_1 tables_1 room_1 Calls_1 rest_1 Pre_1 Post := by
  intro l hfl _ _ p e ha hc hk s m args below hf hA hF happ hP
  obtain ⟨hcalls, hrest, hpre⟩ := hP
  obtain ⟨-, -, -, hnamed, -, -, -, hat⟩ := (Spec.applies_iff hf).mp happ
  obtain ⟨hg, hn⟩ := and_e (Cond.before_iff.mp (show (Jvm.Cond.and given_1 narrow_1).before args s = true from hpre))
  obtain ⟨g1, g2⟩ := and_e hg
  obtain ⟨g3, g4⟩ := and_e g2
  obtain ⟨w0, w1, rfl⟩ : ∃ w0 w1 : Value, args = #[w0, w1] := by
    have hs : args.size = 2 := by simpa [Cond.value, given_1] using g1
    obtain ⟨L⟩ := args
    match L, hs with
    | [w0, w1], _ => exact ⟨w0, w1, rfl⟩
  have hw := fun d (hd : d ∈ tables_1) => atoms_spec (ws := Jvm.Cond.code x code maxLocals ret :: tables_1) hat d (List.mem_cons_of_mem _ hd)
  have hfit : Fit s := fun {y c} hc i hi => by
    obtain ⟨ha, rfl⟩ := Array.getElem?_eq_some_iff.mp hc
    have q := List.all_eq_true.mp ((Array.all_eq_true_iff_forall_mem.mp hF) _ (Array.getElem_mem ha)) i (List.mem_range.mpr hi)
    simpa [Array.getElem?_eq_getElem hi] using q
  obtain ⟨i0, ei0⟩ := is_v g3
  obtain rfl : w0 = (.int i0) := Option.some.inj ei0
  obtain ⟨i1, ei1⟩ := is_v g4
  obtain rfl : w1 = (.int i1) := Option.some.inj ei1
  obtain ⟨n, o, h1, h2, h3, _, L, rfl, ⟨rfl, N⟩, hq⟩ := own_rm0 l s _ hw tables_1 i0 i1  s.heap s.heap.size (Nat.le_refl _)  p e ha hc hk s m _ below hf ((Spec.applies_iff_loose hf).mp happ).1 ⟨rfl, State.Warmed39.refl s, rfl⟩ trivial
  refine ⟨n, _, h1, h2, h3, hpost _ _ _ _ _ _ ⟨Cond.after_iff.mpr rfl, Cond.after_iff.mpr (eq_i res_at (Term.int_eval (1)) rfl), trivial⟩ ⟨hq.1, hq.2.1, (hq.2.2.sift fun y hy => Or.inr (N y hy)).mono (by decide) (by decide)⟩⟩
theorem main_1_1 : Claimed_1_1 := own_comes fun _ _ _ _ _ _ h hF => ⟨h.1, hF⟩
theorem main_1_2 : Claimed_1_2 := own_comes fun _ _ _ _ _ _ h hF => ⟨h.2.1, hF⟩
end Jvm.Pilot.@@N@@
namespace Jvm.Pilot.@@N@@
open Jvm Jvm.ClassFile Sem Op Lib Jvm.Free Jvm.Stand Jvm.Pilot.@@N@@.Jvm.D
/-! MADE BY PROGRAM (witnessworld.py) out of the Statement's table words and the real class files: 9 classes; the members and pool entries that the words name. The judged class is class 1, her method 1. -/
namespace start1
open Jvm.ClassFile
def u (s : String) : CpInfo := .utf8 (stringToUtf16 s)
/-- a pool by its gaps: so many unusable entries, then the entry; so many at the end -/
def gap : Nat → List CpInfo → List CpInfo
  | 0, r => r
  | n + 1, r => .unusable :: gap n r
def poolList (es : List (Nat × CpInfo)) (last : Nat) : List CpInfo := es.foldr (fun e r => gap e.1 (e.2 :: r)) (gap last [])
def pool (es : List (Nat × CpInfo)) (last : Nat) : Array CpInfo := ⟨poolList es last⟩
def fileOf (pool : Array CpInfo) (this : Nat) (attrs : Array Attribute := #[]) (ms : Array MethodInfo := #[]) (fl : Nat := 33) (sup : Nat := 0) (ifs : Array Nat := #[]) (fds : Array FieldInfo := #[]) : ClassFile where
  minorVersion := 0
  majorVersion := 65
  constantPool := pool
  accessFlags := fl
  thisClass := this
  superClass := sup
  interfaces := ifs
  fields := fds
  methods := ms
  attributes := attrs
def plain (name : String) (sup : Option ClassId) : Class where
  name := name
  kind := .ordinary
  loader := none
  accessFlags := 33
  super := sup
  interfaces := #[]
  cf := none
  fields := #[]
  methods := #[]
  instanceTypes := #[]
  staticTypes := #[]
  resolved := #[]
  callSites := []
  init := .initialized
  statics := none
  mirror := none

def pool0 : Array CpInfo := pool [(5, u "<init>"), (0, u "()V"), (1, .class_ 10), (1, u "java/lang/Object")] 113

def k0m0 : Method := { name := "<init>", desc := "()V", sig := { parameters := [], returnType := none }, accessFlags := 1, code := none }
/-- java/lang/Object -/
def k0 : Class := { plain "java/lang/Object" none with
  accessFlags := 33
  interfaces := #[]
  cf := some (fileOf pool0 8 #[] #[{ accessFlags := 1, nameIndex := 5, descriptorIndex := 6, attributes := #[] }] 33 0 #[] #[])
  fields := #[]
  methods := #[k0m0]
  instanceTypes := #[]
  staticTypes := #[]
  resolved := Array.replicate 124 none
  statics := none }

def pool1 : Array CpInfo := pool [(2, .class_ 4), (1, u "java/lang/Object"), (0, u "<init>"), (0, u "()V"), (0, .methodref 8 9), (0, .class_ 10), (0, .nameAndType 11 12), (0, u "com/example/siteward/siteward/assignment/Knapsack"), (0, u "fits"), (0, u "(ID)Z"), (0, .methodref 14 15), (0, .class_ 16), (0, .nameAndType 17 18), (0, u "com/example/siteward/siteward/assignment/KnapsackFitsPinLaw"), (0, u "expected"), (0, u "(II)Z"), (0, .long 1048576), (3, u "law")] 3

def k1m0 : Method := { name := "<init>", desc := "()V", sig := { parameters := [], returnType := none }, accessFlags := 1, code := none }
def k1c1 : Code := { maxStack := 3, maxLocals := 5, code := code, exceptionTable := #[], attributes := #[] }
def k1m1 : Method := { name := "law", desc := "(II)Z", sig := { parameters := [.int, .int], returnType := some .boolean }, accessFlags := 9, code := some k1c1 }
def k1c2 : Code := { maxStack := 6, maxLocals := 8, code := method_3_code, exceptionTable := #[], attributes := #[] }
def k1m2 : Method := { name := "expected", desc := "(II)Z", sig := { parameters := [.int, .int], returnType := some .boolean }, accessFlags := 10, code := some k1c2 }
/-- com/example/siteward/siteward/assignment/KnapsackFitsPinLaw -/
def k1 : Class := { plain "com/example/siteward/siteward/assignment/KnapsackFitsPinLaw" (some 0) with
  accessFlags := 49
  interfaces := #[]
  cf := some (fileOf pool1 14 #[] #[{ accessFlags := 1, nameIndex := 5, descriptorIndex := 6, attributes := #[] }, { accessFlags := 9, nameIndex := 23, descriptorIndex := 18, attributes := #[] }, { accessFlags := 10, nameIndex := 17, descriptorIndex := 18, attributes := #[] }] 49 2 #[] #[])
  fields := #[]
  methods := #[k1m0, k1m1, k1m2]
  instanceTypes := #[]
  staticTypes := #[]
  resolved := Array.replicate 27 none
  statics := none }

def pool2 : Array CpInfo := pool [(2, .class_ 4), (1, u "java/lang/Object"), (3, .class_ 10), (1, u "com/example/siteward/siteward/assignment/Knapsack"), (0, u "fits"), (0, u "(ID)Z"), (10, u "[[D"), (2, u "savings"), (2, u "offered"), (0, u "[I"), (2, u "demands"), (0, .double 4697254411347427328), (6, u "room"), (0, u "I"), (2, u "count"), (18, u "MOST_CELLS"), (0, u "J")] 39

def k2c0 : Code := { maxStack := 6, maxLocals := 3, code := prog_4_method_2_code, exceptionTable := #[], attributes := #[] }
def k2m0 : Method := { name := "fits", desc := "(ID)Z", sig := { parameters := [.int, .double], returnType := some .boolean }, accessFlags := 9, code := some k2c0 }
/-- com/example/siteward/siteward/assignment/Knapsack -/
def k2 : Class := { plain "com/example/siteward/siteward/assignment/Knapsack" (some 0) with
  accessFlags := 49
  interfaces := #[]
  cf := some (fileOf pool2 8 #[] #[{ accessFlags := 9, nameIndex := 11, descriptorIndex := 12, attributes := #[] }] 49 2 #[] #[{ accessFlags := 26, nameIndex := 64, descriptorIndex := 65, attributes := #[] }, { accessFlags := 18, nameIndex := 26, descriptorIndex := 23, attributes := #[] }, { accessFlags := 18, nameIndex := 29, descriptorIndex := 30, attributes := #[] }, { accessFlags := 18, nameIndex := 33, descriptorIndex := 30, attributes := #[] }, { accessFlags := 2, nameIndex := 45, descriptorIndex := 42, attributes := #[] }, { accessFlags := 2, nameIndex := 41, descriptorIndex := 42, attributes := #[] }])
  fields := #[{ name := "MOST_CELLS", type := .long, accessFlags := 26, slot := 0, constantValue := 0 }, { name := "savings", type := (.array (.array .double)), accessFlags := 18, slot := 0, constantValue := 0 }, { name := "offered", type := (.array .int), accessFlags := 18, slot := 1, constantValue := 0 }, { name := "demands", type := (.array .int), accessFlags := 18, slot := 2, constantValue := 0 }, { name := "count", type := .int, accessFlags := 2, slot := 3, constantValue := 0 }, { name := "room", type := .int, accessFlags := 2, slot := 4, constantValue := 0 }]
  methods := #[k2m0]
  instanceTypes := #[(.array (.array .double)), (.array .int), (.array .int), .int, .int]
  staticTypes := #[.long]
  resolved := Array.replicate 105 none
  statics := none }

def pool3 : Array CpInfo := pool [(1, u "java/lang/Cloneable"), (0, .class_ 1), (0, u "java/lang/Object"), (0, .class_ 3)] 3

/-- java/lang/Cloneable -/
def k3 : Class := { plain "java/lang/Cloneable" (some 0) with
  accessFlags := 1537
  interfaces := #[]
  cf := some (fileOf pool3 2 #[] #[] 1537 4 #[] #[])
  fields := #[]
  methods := #[]
  instanceTypes := #[]
  staticTypes := #[]
  resolved := Array.replicate 8 none
  statics := none }

def pool4 : Array CpInfo := pool [(1, u "java/io/Serializable"), (0, .class_ 1), (0, u "java/lang/Object"), (0, .class_ 3)] 3

/-- java/io/Serializable -/
def k4 : Class := { plain "java/io/Serializable" (some 0) with
  accessFlags := 1537
  interfaces := #[]
  cf := some (fileOf pool4 2 #[] #[] 1537 4 #[] #[])
  fields := #[]
  methods := #[]
  instanceTypes := #[]
  staticTypes := #[]
  resolved := Array.replicate 8 none
  statics := none }

/-- the primitive byte -/
def k5 : Class := { plain "byte" none with kind := .primitive 'B', accessFlags := 0x411 }
/-- [B -/
def k6 : Class := { plain "[B" (some 0) with kind := .array 5 .byte, interfaces := #[3, 4], accessFlags := 1041 }

/-- the primitive int -/
def k7 : Class := { plain "int" none with kind := .primitive 'I', accessFlags := 0x411 }
/-- [I -/
def k8 : Class := { plain "[I" (some 0) with kind := .array 7 .int, interfaces := #[3, 4], accessFlags := 1041 }

def heap : Heap := #[]
def classes : Array Class := #[k0, k1, k2, k3, k4, k5, k6, k7, k8]
def interned : List (Array UInt16 × Addr) := []
def slotsUsed : Nat := 0
def theMethod : MethodId := ⟨1, 1⟩
def args0 : Array Value := #[.int 3, .int 4]
def aboutOver (below : List Frame) : State where
  vm := { classes := classes, interned := interned.toArray }
  heap := heap
  slotsUsed := slotsUsed
  threads := #[{ frames := .invoking theMethod args0 :: below }]
def below0 : List Frame := [.native { method := ⟨0, 0⟩, args := #[] }]
def about1 : State := aboutOver below0
def p0 : Program := .bare "" "" ""
def e0 : Env := launch0.env 0 0 0
theorem w_frames : about1.frames = Frame.invoking theMethod args0 :: below0 := rfl
set_option maxRecDepth 65536 in
theorem w_args : argsFit about1.vm theMethod args0 = true := by decide +kernel
set_option maxRecDepth 65536 in
theorem w_heap : heapFits about1 = true := by decide +kernel
set_option maxRecDepth 65536 in
theorem w_runnable : about1.curStatus? = some .runnable := by decide +kernel
set_option maxRecDepth 65536 in
theorem w_alone : about1.alone = true := by decide +kernel
set_option maxRecDepth 65536 in
theorem w_named : about1.methodNamed? x = some theMethod := by decide +kernel
set_option maxRecDepth 65536 in
theorem w_hears : about1.hears theMethod below0 = true := by decide +kernel
set_option maxRecDepth 65536 in
theorem w_ripe : about1.ripe theMethod args0 below0 = true := by decide +kernel
theorem w_running : about1.status = .running := rfl
set_option maxRecDepth 65536 in
theorem w_room : about1.hasRoom e0.platform room_1 = true :=
  launch0.hasRoom_least _ room_1 (by decide +kernel) (by decide +kernel) (by decide +kernel) (by decide +kernel) (by decide +kernel) (by decide +kernel)
theorem allAtoms_all (ts : List Jvm.Cond) (a : Array Jvm.Value) (st : Jvm.State) : (allAtoms ts).before a st = ts.all (fun c => c.before a st) := by
  induction ts with
  | nil => rfl
  | cons c t ih =>
    show (Jvm.Cond.and c (allAtoms t)).before a st = _
    rw [Jvm.Cond.before_and, ih, List.all_cons]
def words1 : List Jvm.Cond := Jvm.Cond.code x code maxLocals ret :: tables_1
/-- a 'code' word, met by the world's own term for the bytes: nothing is compared byte by byte -/
theorem code_word {y : MethodName} {bytes : ByteArray} {mx : Nat} {rt : Option FieldType} {a : Array Value} {s : State} {m : MethodId} {meth : Method} {c : Code} (h1 : s.methodNamed? y = some m) (h2 : s.vm.method? m = some meth) (h3 : meth.code = some c) (h4 : c.code = bytes)
    (h5 : (c.maxLocals == mx && c.exceptionTable.isEmpty && decide (c.maxStack ≤ mostOperands) && decide (meth.sig.returnType = rt) && !meth.locks && decide (parseMethodDescriptor y.desc = some meth.sig)) = true) : (Jvm.Cond.code y bytes mx rt).before a s = true := by
  simp only [Bool.and_eq_true, beq_iff_eq, Bool.not_eq_true', decide_eq_true_eq] at h5
  obtain ⟨⟨⟨⟨⟨g1, g2⟩, g3⟩, g4⟩, g5⟩, g6⟩ := h5
  simp [Cond.before, Cond.holds, Cond.value, h1, h2, h3, h4, g1, g2, g3, g4, g5, g6]
def isCode : Jvm.Cond → Bool
  | .code _ _ _ _ => true
  | _ => false
theorem all_split {L : List Jvm.Cond} {P : Jvm.Cond → Bool} (h1 : L.all (fun c => isCode c || P c) = true) (h2 : ∀ c ∈ L.filter isCode, P c = true) : L.all P = true := by
  refine List.all_eq_true.mpr fun c hc => ?_
  have h := List.all_eq_true.mp h1 c hc
  rcases Bool.eq_false_or_eq_true (isCode c) with hi | hi
  · exact h2 c (List.mem_filter.mpr ⟨hc, hi⟩)
  · simpa [hi] using h
set_option maxRecDepth 65536 in
theorem w_c0 : (Jvm.Cond.code x code maxLocals ret).before args0 about1 = true := code_word (m := ⟨1, 1⟩) (meth := k1m1) (c := k1c1) (by decide +kernel) rfl rfl rfl (by decide +kernel)
set_option maxRecDepth 65536 in
theorem w_c1 : (Jvm.Cond.code ({ cls := "com/example/siteward/siteward/assignment/Knapsack", name := "fits", desc := "(ID)Z" } : Jvm.MethodName) prog_4_method_2_code (3 : Nat) (Option.some Jvm.ClassFile.FieldType.boolean)).before args0 about1 = true := code_word (m := ⟨2, 0⟩) (meth := k2m0) (c := k2c0) (by decide +kernel) rfl rfl rfl (by decide +kernel)
set_option maxRecDepth 65536 in
theorem w_c2 : (Jvm.Cond.code ({ cls := "com/example/siteward/siteward/assignment/KnapsackFitsPinLaw", name := "expected", desc := "(II)Z" } : Jvm.MethodName) method_3_code (8 : Nat) (Option.some Jvm.ClassFile.FieldType.boolean)).before args0 about1 = true := code_word (m := ⟨1, 2⟩) (meth := k1m2) (c := k1c2) (by decide +kernel) rfl rfl rfl (by decide +kernel)
def codes1 : List Jvm.Cond := [Jvm.Cond.code x code maxLocals ret, Jvm.Cond.code ({ cls := "com/example/siteward/siteward/assignment/Knapsack", name := "fits", desc := "(ID)Z" } : Jvm.MethodName) prog_4_method_2_code (3 : Nat) (Option.some Jvm.ClassFile.FieldType.boolean), Jvm.Cond.code ({ cls := "com/example/siteward/siteward/assignment/KnapsackFitsPinLaw", name := "expected", desc := "(II)Z" } : Jvm.MethodName) method_3_code (8 : Nat) (Option.some Jvm.ClassFile.FieldType.boolean)]
set_option maxRecDepth 65536 in
theorem codes_eq : words1.filter isCode = codes1 := rfl
theorem w_codes : ∀ c ∈ words1.filter isCode, c.before args0 about1 = true := by
  rw [codes_eq]
  intro c hc
  simp only [codes1, List.mem_cons, List.not_mem_nil, or_false] at hc
  rcases hc with rfl | rfl | rfl
  · exact w_c0
  · exact w_c1
  · exact w_c2
set_option maxRecDepth 65536 in
theorem w_t1 : words1.all (fun c => isCode c || c.before args0 about1) = true := by decide +kernel
theorem w_tables : (allAtoms (Jvm.Cond.code x code maxLocals ret :: tables_1)).before args0 about1 = true := by
  rw [allAtoms_all]
  show words1.all (fun c => c.before args0 about1) = true
  refine all_split ?_ w_codes
  rw [w_t1]
set_option maxRecDepth 65536 in
theorem w_case : (Jvm.Cond.and given_1 narrow_1).before args0 about1 = true := by decide +kernel
theorem w_applies : (headSpec (Jvm.Cond.code x code maxLocals ret :: tables_1) room_1).applies x e0.platform about1 = true :=
  (Spec.applies_iff w_frames).mpr ⟨w_running, w_runnable, w_alone, w_named, w_hears, w_ripe, w_room, w_tables⟩
theorem atStart : AtStart classFile x code maxLocals ret World_1 tables_1 room_1 Calls_1 rest_1 Pre_1 launch0 p0 e0 about1 theMethod args0 below0 :=
  ⟨lists_1, trivial, launch0.admits_env _ _ _, launch0.least_env, fairChoices_fair.cas, fairChoices_fair.clock, w_frames, w_args, w_heap, w_applies, trivial, trivial, w_case⟩
end start1
theorem witness_1 : WitnessClaimed_1 := ⟨start1.p0, start1.e0, start1.about1, start1.theMethod, start1.args0, start1.below0, start1.atStart⟩
end Jvm.Pilot.@@N@@
