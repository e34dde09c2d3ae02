import JvmDerived
import JvmDerived.Pilot.@@N@@Statement
import JvmDerived.Pilot.@@N@@Code
set_option linter.unusedVariables false
set_option linter.unusedSimpArgs false
set_option maxRecDepth 65536
namespace Jvm.Pilot.@@N@@
open Jvm Jvm.ClassFile Sem Op Lib Jvm.Free Jvm.Stand Jvm.LawKit Jvm.RoadKit Bundle Jvm.Pilot.@@N@@.Jvm.D
section OwnKit
variable {p : Program} {l : Launch} {e : Env} {R : Room} {s : State} {m : MethodId} {args : Array Value} {below : List Frame} {meth : Method} {c : Code} {T : State} {locs : List Loc} {cells slots : Nat}
theorem own_retI (X : Stand p l e R s m args below meth c T locs cells slots) (hx : p.tables.exec = Jvm.exec) {pc : Nat} {Ls : Array Slot} {z : Int32} {rest : List Value} (hret : meth.sig.returnType = some .int) (hd : decode c.code pc = .ok (.ireturn, 1)) {fs : List Frame}
    (hl : ∀ (f : JFrame) (acts : List Action), f.method = m → f.locked = none → f.entered = [] → (doReturn e (T.setTop f) acts (some (.int z))).1 = T.setFrames fs) : Steps p.tables e below (T.setTop (mkF m pc Ls (.int z :: rest))) (T.setFrames fs) := by
  have hm' : T.vm.method? m = some meth := X.method'
  have hn : narrow .int (.int z) = .int z := rfl
  show Steps p.tables e below (T.setTop { method := m, pc := pc, locals := Ls, stack := _ :: rest, locked := none }) _
  jvm_step X.here [X.here.top, hx, hd, hm', hret, hn]
  first | (intro acts; rw [hl _ acts rfl rfl rfl]) | rw [hl _ _ rfl rfl rfl]
  exact Steps.refl _
/-- where the run stands, with the same writes and figures as at X -/
abbrev own_like (_ : Stand p l e R s m args below meth c T locs cells slots) (T' : State) : Prop := Stand p l e R s m args below meth c T' locs cells slots
end OwnKit
theorem own_Llt {a b : Int64} (h : a < b) : ifCond.holds .lt (lcmpW a b) = true ∧ ifCond.holds .ge (lcmpW a b) = false ∧ ifCond.holds .gt (lcmpW b a) = true ∧ ifCond.holds .le (lcmpW b a) = false := by
  simp only [if0]
  exact ⟨(tlt ((lw_lt a b).mpr h)).1, (tlt ((lw_lt a b).mpr h)).2.1, (tlt ((lw_gt b a).mpr h)).2.2.1, (tlt ((lw_gt b a).mpr h)).2.2.2⟩
theorem own_Lnl {a b : Int64} (h : ¬ a < b) : ifCond.holds .lt (lcmpW a b) = false ∧ ifCond.holds .ge (lcmpW a b) = true ∧ ifCond.holds .gt (lcmpW b a) = false ∧ ifCond.holds .le (lcmpW b a) = true := by
  simp only [if0]
  have h1 : ¬ lcmpW a b < 0 := fun q => h ((lw_lt a b).mp q)
  have h2 : ¬ 0 < lcmpW b a := fun q => h ((lw_gt b a).mp q)
  exact ⟨(flt h1).1, (flt h1).2.1, (flt h2).2.2.1, (flt h2).2.2.2⟩
theorem own_Leq {a b : Int64} (h : a = b) : ifCond.holds .eq (lcmpW a b) = true ∧ ifCond.holds .ne (lcmpW a b) = false := by
  simp only [if0]
  exact teq ((lw_eq a b).mpr h)
theorem own_Lne {a b : Int64} (h : ¬ a = b) : ifCond.holds .eq (lcmpW a b) = false ∧ ifCond.holds .ne (lcmpW a b) = true := by
  simp only [if0]
  exact feq fun q => h ((lw_eq a b).mp q)
theorem own_StaK {Z : State} {h h' : Heap} {C n d : String} {v : Value} {ws : List Addr} (F : Sta Z h C n d v) (K : Keep h h' ws) (q : ∀ x ∈ ws, ∃ c : Cell, h[x]? = some c ∧ c.vm.isStatics = false) : Sta Z h' C n d v := by
  obtain ⟨cf, i, k, f, st, cell, h1, h2, h3, h4, h5, h6, h7⟩ := F
  refine ⟨cf, i, k, f, st, cell, h1, h2, h3, h4, K.2.1 st cell h5 (fun hm => ?_), h6, h7⟩
  obtain ⟨c, e1, e2⟩ := q _ hm
  rw [h5] at e1
  cases e1
  rw [h6] at e2
  cases e2
theorem own_ExaS {Z : State} {h : Heap} {a : Addr} {C : String} (E : Exa Z h a C) : ∃ c : Cell, h[a]? = some c ∧ c.vm.isStatics = false := by
  obtain ⟨c, k, e1, -, -, e2, -⟩ := E
  exact ⟨c, e1, e2⟩
/-- a boolean as the JVM's int -/
def own_b (b : Bool) : Int32 := if b then 1 else 0
theorem own_b_t : own_b true = 1 := rfl
theorem own_b_f : own_b false = 0 := rfl
theorem own_b0 {b : Bool} : own_b b = 0 ↔ b = false := by cases b <;> decide
theorem own_b_inj {b c : Bool} : own_b b = own_b c ↔ b = c := by cases b <;> cases c <;> decide
theorem own_leafT {b : Bool} (h : b = true) : (some (.int (nar .boolean (1 : Int32))) : Option Value) = some (.int (own_b b)) := by subst h; rfl
theorem own_leafF {b : Bool} (h : b = false) : (some (.int (nar .boolean (0 : Int32))) : Option Value) = some (.int (own_b b)) := by subst h; rfl
theorem own_bt {b : Bool} (h : b = true) : (1 : Int32) = own_b b := by subst h; rfl
theorem own_bf {b : Bool} (h : b = false) : (0 : Int32) = own_b b := by subst h; rfl
theorem own_b_nar (b : Bool) : nar .boolean (own_b b) = own_b b := by cases b <;> rfl
def own_ic (a b : Int32) : Int32 := if a < b then -1 else if a = b then 0 else 1
def own_cmpP (la ca lb cb : Int32) : Int32 := if own_ic la lb = 0 then own_ic ca cb else own_ic la lb
def own_sg (r : Int32) : Int32 := if r < 0 then -1 else if 0 < r then 1 else 0
def own_ex (l1 l2 c1 c2 : Int32) : Int32 := if l1 < l2 then -1 else if l2 < l1 then 1 else if c1 < c2 then -1 else if c2 < c1 then 1 else 0
theorem own_tri (a b : Int32) : (a < b ∧ ¬ b < a ∧ ¬ a = b ∧ ¬ b = a) ∨ (¬ a < b ∧ ¬ b < a ∧ a = b) ∨ (¬ a < b ∧ b < a ∧ ¬ a = b ∧ ¬ b = a) := by
  rw [Int32.lt_iff_toInt_lt, Int32.lt_iff_toInt_lt, ← Int32.toInt_inj, ← Int32.toInt_inj]
  omega
theorem own_k1 : ((-1 : Int32) < 0) = True := by decide
theorem own_k2 : ((0 : Int32) < 1) = True := by decide
theorem own_k3 : ((1 : Int32) < 0) = False := by decide
theorem own_k4 : ((-1 : Int32) = 0) = False := by decide
theorem own_k5 : ((1 : Int32) = 0) = False := by decide
theorem own_k6 : ((0 : Int32) < 0) = False := by decide
theorem own_k7 : -(-1 : Int32) = 1 := by decide
theorem own_k8 : -(0 : Int32) = 0 := by decide
theorem own_plain (l1 l2 c1 c2 : Int32) : own_sg (own_cmpP l1 c1 l2 c2) = own_ex l1 l2 c1 c2 ∧ own_sg (own_cmpP l2 c2 l1 c1) = -(own_ex l1 l2 c1 c2) := by
  rcases own_tri l1 l2 with ⟨h1, h2, h3, h4⟩ | ⟨h1, h2, rfl⟩ | ⟨h1, h2, h3, h4⟩ <;> rcases own_tri c1 c2 with ⟨g1, g2, g3, g4⟩ | ⟨g1, g2, rfl⟩ | ⟨g1, g2, g3, g4⟩ <;> simp only [own_sg, own_cmpP, own_ic, own_ex, own_k1, own_k2, own_k3, own_k4, own_k5, own_k6, own_k7, own_k8, if_true, if_false, *] <;> decide
theorem own_d2_0 : decode jdk_30_method_1_code 0 = .ok (.aload_n 0, 1) := by decide +kernel
theorem own_d2_1 : decode jdk_30_method_1_code 1 = .ok (.invokespecial 1, 3) := by decide +kernel
theorem own_d2_4 : decode jdk_30_method_1_code 4 = .ok (.return_, 1) := by decide +kernel
theorem own_ef2 (m : MethodId) (x0 : Addr) : entryFrame m #[(.ref x0)] 1 = mkF m 0 #[.val (.ref x0)] [] := by first | (simp [entryFrame, mkF, argsToLocals, Value.category]; done) | rfl
def own_Q2 (Z : State) (a : Addr) (h0 : Heap) (n0 : Nat) (v : Option Value) (h : Heap) (L : List Loc) : Prop := v = none ∧ L = [] ∧ h = h0
theorem own_pn0 : plainName "java/lang/Record" = true := by first | (simp [plainName, overriddenIn]; done) | decide +kernel
set_option maxHeartbeats 40000000 in
theorem own_rm2 (l : Launch) (Z : State) (a0 : Array Value) (hw : ∀ d ∈ tables_1, d.before a0 Z = true) (ws : List Jvm.Cond) (a : Addr) (h0 : Heap) (n0 : Nat) (Z0 : n0 ≤ h0.size) :
    MetFree l (⟨"java/lang/Record", "<init>", "()V"⟩ : MethodName) (head1 (Jvm.Cond.code (⟨"java/lang/Record", "<init>", "()V"⟩ : MethodName) jdk_30_method_1_code 1 none :: ws) ({ frames := 1, cells := 0, slots := 0, locals := 12 } : Room)) (fun argv U => argv = #[(.ref a)] ∧ Z.Warmed39 U.vm ∧ U.heap = h0) (fun _ _ _ _ _ => True) (fun _ U o U' => ∃ v L, o = .returned v ∧ own_Q2 Z a h0 n0 v U'.heap L ∧ FrameEnd U o U' L ({ frames := 1, cells := 0, slots := 0, locals := 12 } : Room).cells ({ frames := 1, cells := 0, slots := 0, locals := 12 } : Room).slots) := by
  refine MetFree.of_bodySF (plainFor_of_name own_pn0) hisR ?_
  intro p e s m args below meth c s₁ Bd hml0 hP hK
  obtain ⟨rfl, hZ, hh⟩ := hP
  have hx := Bd.exec
  have hby := Bd.bytes
  have hml : c.maxLocals = 1 := hml0
  have hown : s.vm.findClass "java/lang/Record" = some m.cls := findClass_of_methodNamed Bd.named
  have hnm := (name_of_methodNamed Bd.named Bd.method).1
  have X0 : Stand p l e ({ frames := 1, cells := 0, slots := 0, locals := 12 } : Room) s m #[(.ref a)] below meth c s₁ [] 0 0 := Stand.of_body Bd
  have e0 : s₁.heap = h0 := by rw [← hh, Bd.state]; rfl
  have N0 := Fr.nil n0
  have pre0 : ∀ t, Steps p.tables e below (s₁.setTop (mkF m 0 #[.val (.ref a)] [])) t → Steps p.tables e below (s₁.setTop (entryFrame m #[(.ref a)] 1)) t := fun t k => castTop (own_ef2 m a) k
  have S1 : ∀ t, Steps p.tables e below (s₁.setTop (mkF m 1 #[.val (.ref a)] [(.ref a)])) t → Steps p.tables e below (s₁.setTop (entryFrame m #[(.ref a)] 1)) t := fun t kt => by
    refine pre0 t ?_
    show Steps p.tables e below (s₁.setTop (mkF m 0 #[.val (.ref a)] [])) t
    refine XS.aloadN X0.here hx rfl (hb hby own_d2_0) rfl rfl ?_
    exact kt
  obtain ⟨T2, X2, e2, st2⟩ := initO X0 hx hZ hown (hw _ (List.mem_of_getElem? (i := 11) rfl)) (hw _ (List.mem_of_getElem? (i := 12) rfl)) (hw _ (List.mem_of_getElem? (i := 13) rfl)) e0 (g := (mkF m 1 #[.val (.ref a)] [(.ref a)])) rfl (by rw [hml]; rfl) rfl (hb hby own_d2_1) (by decide) (W := 0) (by show 2 * 0 + _ ≤ _; exact Nat.le_of_eq rfl) (by decide)
  have S3 : ∀ t, Steps p.tables e below (T2.setTop (mkF m 4 #[.val (.ref a)] [])) t → Steps p.tables e below (s₁.setTop (entryFrame m #[(.ref a)] 1)) t := fun t kt => S1 t (st2 _ kt)
  obtain ⟨fs, hr, hrun, hended, hW, hsame⟩ := X2.leave (v := none) (fun _ => rfl)
  refine ⟨_, _, S3 _ ?_, hrun, hended, _, _, rfl, ?_, ⟨_, rfl⟩, hW, hsame.mono (by decide) (by decide)⟩
  · show Steps p.tables e below (T2.setTop (mkF m 4 #[.val (.ref a)] [])) _
    exact X2.returnOut hx Bd.returns (hb hby own_d2_4) hr
  · show own_Q2 Z a h0 n0 _ T2.heap _
    rw [e2]
    exact ⟨rfl, rfl, rfl⟩
theorem own_pd0 : parseMethodDescriptor "()V" = some ⟨[], none⟩ := by decide +kernel
theorem own_d1_0 : decode prog_44_method_1_code 0 = .ok (.aload_n 0, 1) := by decide +kernel
theorem own_d1_1 : decode prog_44_method_1_code 1 = .ok (.invokespecial 1, 3) := by decide +kernel
theorem own_d1_4 : decode prog_44_method_1_code 4 = .ok (.aload_n 0, 1) := by decide +kernel
theorem own_d1_5 : decode prog_44_method_1_code 5 = .ok (.iload_n 1, 1) := by decide +kernel
theorem own_d1_6 : decode prog_44_method_1_code 6 = .ok (.putfield 7, 3) := by decide +kernel
theorem own_d1_9 : decode prog_44_method_1_code 9 = .ok (.aload_n 0, 1) := by decide +kernel
theorem own_d1_10 : decode prog_44_method_1_code 10 = .ok (.iload_n 2, 1) := by decide +kernel
theorem own_d1_11 : decode prog_44_method_1_code 11 = .ok (.putfield 13, 3) := by decide +kernel
theorem own_d1_14 : decode prog_44_method_1_code 14 = .ok (.return_, 1) := by decide +kernel
theorem own_ef1 (m : MethodId) (x0 : Addr) (x1 : Int32) (x2 : Int32) : entryFrame m #[(.ref x0), (.int x1), (.int x2)] 3 = mkF m 0 #[.val (.ref x0), .val (.int x1), .val (.int x2)] [] := by first | (simp [entryFrame, mkF, argsToLocals, Value.category]; done) | rfl
def own_Q1 (Z : State) (a : Addr) (x1 : Int32) (x2 : Int32) (u0 : Value) (u1 : Value) (h0 : Heap) (n0 : Nat) (v : Option Value) (h : Heap) (L : List Loc) : Prop := v = none ∧ Fr n0 L ∧ Keep h0 h [a] ∧ Exa Z h a "com/example/splode/splode/document/Position" ∧ Fld Z h a "com/example/splode/splode/document/Position" "line" "I" (.int x1) ∧ Fld Z h a "com/example/splode/splode/document/Position" "column" "I" (.int x2)
theorem own_pn1 : plainName "com/example/splode/splode/document/Position" = true := by first | (simp [plainName, overriddenIn]; done) | decide +kernel
set_option maxHeartbeats 40000000 in
theorem own_rm1 (l : Launch) (Z : State) (a0 : Array Value) (hw : ∀ d ∈ tables_1, d.before a0 Z = true) (ws : List Jvm.Cond) (a : Addr) (x1 : Int32) (x2 : Int32) (u0 : Value) (u1 : Value) (h0 : Heap) (n0 : Nat) (Z0 : n0 ≤ h0.size) (E_a : Exa Z h0 a "com/example/splode/splode/document/Position") (g_a : n0 ≤ a) (F_line : Fld Z h0 a "com/example/splode/splode/document/Position" "line" "I" u0) (F_column : Fld Z h0 a "com/example/splode/splode/document/Position" "column" "I" u1) :
    MetFree l (⟨"com/example/splode/splode/document/Position", "<init>", "(II)V"⟩ : MethodName) (head1 (Jvm.Cond.code (⟨"com/example/splode/splode/document/Position", "<init>", "(II)V"⟩ : MethodName) prog_44_method_1_code 3 none :: ws) ({ frames := 2, cells := 0, slots := 0, locals := 24 } : Room)) (fun argv U => argv = #[(.ref a), (.int x1), (.int x2)] ∧ Z.Warmed39 U.vm ∧ U.heap = h0) (fun _ _ _ _ _ => True) (fun _ U o U' => ∃ v L, o = .returned v ∧ own_Q1 Z a x1 x2 u0 u1 h0 n0 v U'.heap L ∧ FrameEnd U o U' L ({ frames := 2, cells := 0, slots := 0, locals := 24 } : Room).cells ({ frames := 2, cells := 0, slots := 0, locals := 24 } : Room).slots) := by
  refine MetFree.of_bodySF (plainFor_of_name own_pn1) hisR ?_
  intro p e s m args below meth c s₁ Bd hml0 hP hK
  obtain ⟨rfl, hZ, hh⟩ := hP
  have hx := Bd.exec
  have hby := Bd.bytes
  have hml : c.maxLocals = 3 := hml0
  have hown : s.vm.findClass "com/example/splode/splode/document/Position" = some m.cls := findClass_of_methodNamed Bd.named
  have hnm := (name_of_methodNamed Bd.named Bd.method).1
  have X0 : Stand p l e ({ frames := 2, cells := 0, slots := 0, locals := 24 } : Room) s m #[(.ref a), (.int x1), (.int x2)] below meth c s₁ [] 0 0 := Stand.of_body Bd
  have e0 : s₁.heap = h0 := by rw [← hh, Bd.state]; rfl
  have N0 := Fr.nil n0
  have pre0 : ∀ t, Steps p.tables e below (s₁.setTop (mkF m 0 #[.val (.ref a), .val (.int x1), .val (.int x2)] [])) t → Steps p.tables e below (s₁.setTop (entryFrame m #[(.ref a), (.int x1), (.int x2)] 3)) t := fun t k => castTop (own_ef1 m a x1 x2) k
  have S2 : ∀ t, Steps p.tables e below (s₁.setTop (mkF m 1 #[.val (.ref a), .val (.int x1), .val (.int x2)] [(.ref a)])) t → Steps p.tables e below (s₁.setTop (entryFrame m #[(.ref a), (.int x1), (.int x2)] 3)) t := fun t kt => by
    refine pre0 t ?_
    show Steps p.tables e below (s₁.setTop (mkF m 0 #[.val (.ref a), .val (.int x1), .val (.int x2)] [])) t
    refine XS.aloadN X0.here hx rfl (hb hby own_d1_0) rfl rfl ?_
    exact kt
  obtain ⟨_, _, ⟨T3, L3, k3, n3⟩, -, X3, ⟨Lc3, hQ3, l3, y3, z3⟩, st3⟩ := X0.specialBack hx (y := (⟨"java/lang/Record", "<init>", "()V"⟩ : MethodName)) rfl hown (mvT hZ (hw _ (List.mem_of_getElem? (i := 6) rfl))) (mvT hZ (hw _ (List.mem_of_getElem? (i := 7) rfl))) (mvT hZ (hw _ (List.mem_of_getElem? (i := 10) rfl))) (by decide) (backOf (W := 0) (own_rm2 l Z a0 hw [] (a) h0 n0 Z0) hZ (hw _ (List.mem_of_getElem? (i := 10) rfl)) (hw _ (List.mem_of_getElem? (i := 9) rfl)) (by decide) (by decide)) (g := (mkF m 1 #[.val (.ref a), .val (.int x1), .val (.int x2)] [(.ref a)])) rfl (by rw [hml]; rfl) (Steps.refl _) (a := a) (argsL := []) (rest := []) (lenOf own_pd0 rfl) rfl (by show 2 * 0 + _ ≤ _; exact Nat.le_of_eq rfl) (hb hby own_d1_1) (fun _ _ => ⟨rfl, e0, (by decide : 0 + 0 ≤ _), (by decide : 0 + 0 ≤ _)⟩)
  dsimp only [Pt.U, Pt.locs, Pt.cells, Pt.slots] at X3 l3 y3 z3 st3 hQ3
  subst l3 y3 z3
  obtain ⟨rfl, rfl, eq1⟩ := hQ3
  try rw [List.append_nil] at X3
  have S4 : ∀ t, Steps p.tables e below (T3.setTop (mkF m 4 #[.val (.ref a), .val (.int x1), .val (.int x2)] [])) t → Steps p.tables e below (s₁.setTop (entryFrame m #[(.ref a), (.int x1), (.int x2)] 3)) t := fun t kt => S2 t (st3.trans kt)
  have S5 : ∀ t, Steps p.tables e below (T3.setTop (mkF m 6 #[.val (.ref a), .val (.int x1), .val (.int x2)] [(.int x1), (.ref a)])) t → Steps p.tables e below (s₁.setTop (entryFrame m #[(.ref a), (.int x1), (.int x2)] 3)) t := fun t kt => by
    refine S4 t ?_
    show Steps p.tables e below (T3.setTop (mkF m 4 #[.val (.ref a), .val (.int x1), .val (.int x2)] [])) t
    refine XS.aloadN X3.here hx rfl (hb hby own_d1_4) rfl rfl ?_
    show Steps p.tables e below (T3.setTop (mkF m 5 #[.val (.ref a), .val (.int x1), .val (.int x2)] [(.ref a)])) t
    refine XS.iloadN X3.here hx rfl (hb hby own_d1_5) rfl ?_
    exact kt
  obtain ⟨T6, h6, X6, e6, W6, st6⟩ := putF X3 hx hZ hown (host := "") (Or.inl (hw _ (List.mem_of_getElem? (i := 14) rfl))) Via.refl eq1 F_line E_a (Or.inr ⟨(hw _ (List.mem_of_getElem? (i := 15) rfl)), rfl, hnm⟩) (hw _ (List.mem_of_getElem? (i := 1) rfl)) (ty := .int) (by decide) rfl rfl (g := (mkF m 6 #[.val (.ref a), .val (.int x1), .val (.int x2)] [(.int x1), (.ref a)])) rfl rfl (hb hby own_d1_6)
  have S7 : ∀ t, Steps p.tables e below (T6.setTop (mkF m 9 #[.val (.ref a), .val (.int x1), .val (.int x2)] [])) t → Steps p.tables e below (s₁.setTop (entryFrame m #[(.ref a), (.int x1), (.int x2)] 3)) t := fun t kt => S5 t (st6 _ kt)
  have F8 := E_a.wr W6
  have F9 := F_line.same W6
  have F10 := F_column.other W6 (Or.inr (slot_ne (Or.inr (hw _ (List.mem_of_getElem? (i := 17) rfl))) (Or.inr (hw _ (List.mem_of_getElem? (i := 15) rfl))) (by decide) (t := .int) (t' := .int) (by decide) (by decide)))
  have N11 := Fr.snoc X6 N0 g_a
  have K12 : Keep h0 h6 [a] := (Keep.refl h0 [a]).wr W6 (Or.inl (List.mem_of_getElem? (i := 0) rfl))
  have S13 : ∀ t, Steps p.tables e below (T6.setTop (mkF m 11 #[.val (.ref a), .val (.int x1), .val (.int x2)] [(.int x2), (.ref a)])) t → Steps p.tables e below (s₁.setTop (entryFrame m #[(.ref a), (.int x1), (.int x2)] 3)) t := fun t kt => by
    refine S7 t ?_
    show Steps p.tables e below (T6.setTop (mkF m 9 #[.val (.ref a), .val (.int x1), .val (.int x2)] [])) t
    refine XS.aloadN X6.here hx rfl (hb hby own_d1_9) rfl rfl ?_
    show Steps p.tables e below (T6.setTop (mkF m 10 #[.val (.ref a), .val (.int x1), .val (.int x2)] [(.ref a)])) t
    refine XS.iloadN X6.here hx rfl (hb hby own_d1_10) rfl ?_
    exact kt
  obtain ⟨T14, h14, X14, e14, W14, st14⟩ := putF X6 hx hZ hown (host := "") (Or.inl (hw _ (List.mem_of_getElem? (i := 16) rfl))) Via.refl e6 F10 F8 (Or.inr ⟨(hw _ (List.mem_of_getElem? (i := 17) rfl)), rfl, hnm⟩) (hw _ (List.mem_of_getElem? (i := 1) rfl)) (ty := .int) (by decide) rfl rfl (g := (mkF m 11 #[.val (.ref a), .val (.int x1), .val (.int x2)] [(.int x2), (.ref a)])) rfl rfl (hb hby own_d1_11)
  have S15 : ∀ t, Steps p.tables e below (T14.setTop (mkF m 14 #[.val (.ref a), .val (.int x1), .val (.int x2)] [])) t → Steps p.tables e below (s₁.setTop (entryFrame m #[(.ref a), (.int x1), (.int x2)] 3)) t := fun t kt => S13 t (st14 _ kt)
  have F16 := F8.wr W14
  have F17 := F9.other W14 (Or.inr (slot_ne (Or.inr (hw _ (List.mem_of_getElem? (i := 15) rfl))) (Or.inr (hw _ (List.mem_of_getElem? (i := 17) rfl))) (by decide) (t := .int) (t' := .int) (by decide) (by decide)))
  have F18 := F10.same W14
  have N19 := Fr.snoc X14 N11 g_a
  have K20 : Keep h0 h14 [a] := K12.wr W14 (Or.inl (List.mem_of_getElem? (i := 0) rfl))
  obtain ⟨fs, hr, hrun, hended, hW, hsame⟩ := X14.leave (v := none) (fun _ => rfl)
  refine ⟨_, _, S15 _ ?_, hrun, hended, _, _, rfl, ?_, ⟨_, rfl⟩, hW, hsame.mono (by decide) (by decide)⟩
  · show Steps p.tables e below (T14.setTop (mkF m 14 #[.val (.ref a), .val (.int x1), .val (.int x2)] [])) _
    exact X14.returnOut hx Bd.returns (hb hby own_d1_14) hr
  · show own_Q1 Z a x1 x2 u0 u1 h0 n0 _ T14.heap _
    rw [e14]
    exact ⟨rfl, N19, K20, F16, F17, F18⟩
theorem own_d5_0 : decode jdk_33_method_40_code 0 = .ok (.iload_n 0, 1) := by decide +kernel
theorem own_d5_1 : decode jdk_33_method_40_code 1 = .ok (.iload_n 1, 1) := by decide +kernel
theorem own_d5_2 : decode jdk_33_method_40_code 2 = .ok (.if_icmp .ge 7, 3) := by decide +kernel
theorem own_d5_5 : decode jdk_33_method_40_code 5 = .ok (.iconst (-1), 1) := by decide +kernel
theorem own_d5_6 : decode jdk_33_method_40_code 6 = .ok (.goto 13, 3) := by decide +kernel
theorem own_d5_9 : decode jdk_33_method_40_code 9 = .ok (.iload_n 0, 1) := by decide +kernel
theorem own_d5_10 : decode jdk_33_method_40_code 10 = .ok (.iload_n 1, 1) := by decide +kernel
theorem own_d5_11 : decode jdk_33_method_40_code 11 = .ok (.if_icmp .ne 7, 3) := by decide +kernel
theorem own_d5_14 : decode jdk_33_method_40_code 14 = .ok (.iconst 0, 1) := by decide +kernel
theorem own_d5_15 : decode jdk_33_method_40_code 15 = .ok (.goto 4, 3) := by decide +kernel
theorem own_d5_18 : decode jdk_33_method_40_code 18 = .ok (.iconst 1, 1) := by decide +kernel
theorem own_d5_19 : decode jdk_33_method_40_code 19 = .ok (.ireturn, 1) := by decide +kernel
theorem own_ef5 (m : MethodId) (x0 : Int32) (x1 : Int32) : entryFrame m #[(.int x0), (.int x1)] 2 = mkF m 0 #[.val (.int x0), .val (.int x1)] [] := by first | (simp [entryFrame, mkF, argsToLocals, Value.category]; done) | rfl
def own_Q5 (Z : State) (u1 : Int32) (u2 : Int32) (h0 : Heap) (n0 : Nat) (v : Option Value) (h : Heap) (L : List Loc) : Prop := v = some (.int (own_ic u1 u2)) ∧ L = [] ∧ h = h0
theorem own_pn2 : plainName "java/lang/Integer" = true := by first | (simp [plainName, overriddenIn]; done) | decide +kernel
set_option maxHeartbeats 40000000 in
theorem own_rm5 (l : Launch) (Z : State) (a0 : Array Value) (hw : ∀ d ∈ tables_1, d.before a0 Z = true) (ws : List Jvm.Cond) (u1 : Int32) (u2 : Int32) (h0 : Heap) (n0 : Nat) (Z0 : n0 ≤ h0.size) :
    MetFree l (⟨"java/lang/Integer", "compare", "(II)I"⟩ : MethodName) (head1 (Jvm.Cond.code (⟨"java/lang/Integer", "compare", "(II)I"⟩ : MethodName) jdk_33_method_40_code 2 (some .int) :: ws) ({ frames := 0, cells := 0, slots := 0, locals := 0 } : Room)) (fun argv U => argv = #[(.int u1), (.int u2)] ∧ Z.Warmed39 U.vm ∧ U.heap = h0) (fun _ _ _ _ _ => True) (fun _ U o U' => ∃ v L, o = .returned v ∧ own_Q5 Z u1 u2 h0 n0 v U'.heap L ∧ FrameEnd U o U' L ({ frames := 0, cells := 0, slots := 0, locals := 0 } : Room).cells ({ frames := 0, cells := 0, slots := 0, locals := 0 } : Room).slots) := by
  refine MetFree.of_bodySF (plainFor_of_name own_pn2) hisR ?_
  intro p e s m args below meth c s₁ Bd hml0 hP hK
  obtain ⟨rfl, hZ, hh⟩ := hP
  have hx := Bd.exec
  have hby := Bd.bytes
  have hml : c.maxLocals = 2 := hml0
  have hown : s.vm.findClass "java/lang/Integer" = some m.cls := findClass_of_methodNamed Bd.named
  have hnm := (name_of_methodNamed Bd.named Bd.method).1
  have X0 : Stand p l e ({ frames := 0, cells := 0, slots := 0, locals := 0 } : Room) s m #[(.int u1), (.int u2)] below meth c s₁ [] 0 0 := Stand.of_body Bd
  have e0 : s₁.heap = h0 := by rw [← hh, Bd.state]; rfl
  have N0 := Fr.nil n0
  have pre0 : ∀ t, Steps p.tables e below (s₁.setTop (mkF m 0 #[.val (.int u1), .val (.int u2)] [])) t → Steps p.tables e below (s₁.setTop (entryFrame m #[(.int u1), (.int u2)] 2)) t := fun t k => castTop (own_ef5 m u1 u2) k
  have S1 : ∀ t, Steps p.tables e below (s₁.setTop (mkF m 2 #[.val (.int u1), .val (.int u2)] [(.int u2), (.int u1)])) t → Steps p.tables e below (s₁.setTop (entryFrame m #[(.int u1), (.int u2)] 2)) t := fun t kt => by
    refine pre0 t ?_
    show Steps p.tables e below (s₁.setTop (mkF m 0 #[.val (.int u1), .val (.int u2)] [])) t
    refine XS.iloadN X0.here hx rfl (hb hby own_d5_0) rfl ?_
    show Steps p.tables e below (s₁.setTop (mkF m 1 #[.val (.int u1), .val (.int u2)] [(.int u1)])) t
    refine XS.iloadN X0.here hx rfl (hb hby own_d5_1) rfl ?_
    exact kt
  by_cases hc2 : u1 < u2
  · skip
    have S2 : ∀ t, Steps p.tables e below (s₁.setTop (mkF m 19 #[.val (.int u1), .val (.int u2)] [(.int (-1 : Int32))])) t → Steps p.tables e below (s₁.setTop (entryFrame m #[(.int u1), (.int u2)] 2)) t := fun t kt => by
      refine S1 t ?_
      show Steps p.tables e below (s₁.setTop (mkF m 2 #[.val (.int u1), .val (.int u2)] [(.int u2), (.int u1)])) t
      refine XS.icmpNo X0.here hx rfl (hb hby own_d5_2) rfl (tlt hc2).2.1 ?_
      show Steps p.tables e below (s₁.setTop (mkF m 5 #[.val (.int u1), .val (.int u2)] [])) t
      refine XS.iconst X0.here hx rfl (hb hby own_d5_5) ?_
      show Steps p.tables e below (s₁.setTop (mkF m 6 #[.val (.int u1), .val (.int u2)] [(.int (-1 : Int32))])) t
      refine XS.goto X0.here hx rfl (pc0 := 6) (pc' := 19) rfl (hb hby own_d5_6) (by decide) (by decide) ?_
      exact kt
    obtain ⟨fs, hr, hrun, hended, hW, hsame⟩ := X0.leave (v := some (.int (-1 : Int32))) (fun h => by rw [Bd.returns] at h; cases h)
    refine ⟨_, _, S2 _ ?_, hrun, hended, _, _, rfl, ?_, ⟨_, rfl⟩, hW, hsame.mono (by decide) (by decide)⟩
    · show Steps p.tables e below (s₁.setTop (mkF m 19 #[.val (.int u1), .val (.int u2)] [(.int (-1 : Int32))])) _
      exact own_retI X0 hx Bd.returns (hb hby own_d5_19) hr
    · show own_Q5 Z u1 u2 h0 n0 _ s₁.heap _
      rw [e0]
      exact ⟨by simp [own_ic, *], rfl, rfl⟩
  · skip
    have S3 : ∀ t, Steps p.tables e below (s₁.setTop (mkF m 11 #[.val (.int u1), .val (.int u2)] [(.int u2), (.int u1)])) t → Steps p.tables e below (s₁.setTop (entryFrame m #[(.int u1), (.int u2)] 2)) t := fun t kt => by
      refine S1 t ?_
      show Steps p.tables e below (s₁.setTop (mkF m 2 #[.val (.int u1), .val (.int u2)] [(.int u2), (.int u1)])) t
      refine XS.icmpYes X0.here hx rfl (pc0 := 2) (pc' := 9) rfl (hb hby own_d5_2) rfl (flt hc2).2.1 (by decide) (by decide) ?_
      show Steps p.tables e below (s₁.setTop (mkF m 9 #[.val (.int u1), .val (.int u2)] [])) t
      refine XS.iloadN X0.here hx rfl (hb hby own_d5_9) rfl ?_
      show Steps p.tables e below (s₁.setTop (mkF m 10 #[.val (.int u1), .val (.int u2)] [(.int u1)])) t
      refine XS.iloadN X0.here hx rfl (hb hby own_d5_10) rfl ?_
      exact kt
    by_cases hc11 : u1 = u2
    · skip
      have S4 : ∀ t, Steps p.tables e below (s₁.setTop (mkF m 19 #[.val (.int u1), .val (.int u2)] [(.int (0 : Int32))])) t → Steps p.tables e below (s₁.setTop (entryFrame m #[(.int u1), (.int u2)] 2)) t := fun t kt => by
        refine S3 t ?_
        show Steps p.tables e below (s₁.setTop (mkF m 11 #[.val (.int u1), .val (.int u2)] [(.int u2), (.int u1)])) t
        refine XS.icmpNo X0.here hx rfl (hb hby own_d5_11) rfl (teq hc11).2 ?_
        show Steps p.tables e below (s₁.setTop (mkF m 14 #[.val (.int u1), .val (.int u2)] [])) t
        refine XS.iconst X0.here hx rfl (hb hby own_d5_14) ?_
        show Steps p.tables e below (s₁.setTop (mkF m 15 #[.val (.int u1), .val (.int u2)] [(.int (0 : Int32))])) t
        refine XS.goto X0.here hx rfl (pc0 := 15) (pc' := 19) rfl (hb hby own_d5_15) (by decide) (by decide) ?_
        exact kt
      obtain ⟨fs, hr, hrun, hended, hW, hsame⟩ := X0.leave (v := some (.int (0 : Int32))) (fun h => by rw [Bd.returns] at h; cases h)
      refine ⟨_, _, S4 _ ?_, hrun, hended, _, _, rfl, ?_, ⟨_, rfl⟩, hW, hsame.mono (by decide) (by decide)⟩
      · show Steps p.tables e below (s₁.setTop (mkF m 19 #[.val (.int u1), .val (.int u2)] [(.int (0 : Int32))])) _
        exact own_retI X0 hx Bd.returns (hb hby own_d5_19) hr
      · show own_Q5 Z u1 u2 h0 n0 _ s₁.heap _
        rw [e0]
        exact ⟨by simp [own_ic, *], rfl, rfl⟩
    · skip
      have S5 : ∀ t, Steps p.tables e below (s₁.setTop (mkF m 19 #[.val (.int u1), .val (.int u2)] [(.int (1 : Int32))])) t → Steps p.tables e below (s₁.setTop (entryFrame m #[(.int u1), (.int u2)] 2)) t := fun t kt => by
        refine S3 t ?_
        show Steps p.tables e below (s₁.setTop (mkF m 11 #[.val (.int u1), .val (.int u2)] [(.int u2), (.int u1)])) t
        refine XS.icmpYes X0.here hx rfl (pc0 := 11) (pc' := 18) rfl (hb hby own_d5_11) rfl (feq hc11).2 (by decide) (by decide) ?_
        show Steps p.tables e below (s₁.setTop (mkF m 18 #[.val (.int u1), .val (.int u2)] [])) t
        refine XS.iconst X0.here hx rfl (hb hby own_d5_18) ?_
        exact kt
      obtain ⟨fs, hr, hrun, hended, hW, hsame⟩ := X0.leave (v := some (.int (1 : Int32))) (fun h => by rw [Bd.returns] at h; cases h)
      refine ⟨_, _, S5 _ ?_, hrun, hended, _, _, rfl, ?_, ⟨_, rfl⟩, hW, hsame.mono (by decide) (by decide)⟩
      · show Steps p.tables e below (s₁.setTop (mkF m 19 #[.val (.int u1), .val (.int u2)] [(.int (1 : Int32))])) _
        exact own_retI X0 hx Bd.returns (hb hby own_d5_19) hr
      · show own_Q5 Z u1 u2 h0 n0 _ s₁.heap _
        rw [e0]
        exact ⟨by simp [own_ic, *], rfl, rfl⟩
theorem own_d6_0 : decode method_2_code 0 = .ok (.iload_n 0, 1) := by decide +kernel
theorem own_d6_1 : decode method_2_code 1 = .ok (.ifCond .ge 5, 3) := by decide +kernel
theorem own_d6_4 : decode method_2_code 4 = .ok (.iconst (-1), 1) := by decide +kernel
theorem own_d6_5 : decode method_2_code 5 = .ok (.ireturn, 1) := by decide +kernel
theorem own_d6_6 : decode method_2_code 6 = .ok (.iload_n 0, 1) := by decide +kernel
theorem own_d6_7 : decode method_2_code 7 = .ok (.ifCond .le 5, 3) := by decide +kernel
theorem own_d6_10 : decode method_2_code 10 = .ok (.iconst 1, 1) := by decide +kernel
theorem own_d6_11 : decode method_2_code 11 = .ok (.ireturn, 1) := by decide +kernel
theorem own_d6_12 : decode method_2_code 12 = .ok (.iconst 0, 1) := by decide +kernel
theorem own_d6_13 : decode method_2_code 13 = .ok (.ireturn, 1) := by decide +kernel
theorem own_ef6 (m : MethodId) (x0 : Int32) : entryFrame m #[(.int x0)] 1 = mkF m 0 #[.val (.int x0)] [] := by first | (simp [entryFrame, mkF, argsToLocals, Value.category]; done) | rfl
def own_Q6 (Z : State) (r : Int32) (h0 : Heap) (n0 : Nat) (v : Option Value) (h : Heap) (L : List Loc) : Prop := v = some (.int (own_sg r)) ∧ L = [] ∧ h = h0
theorem own_pn3 : plainName "com/example/splode/splode/document/PositionCompareToPinLaw" = true := by first | (simp [plainName, overriddenIn]; done) | decide +kernel
set_option maxHeartbeats 40000000 in
theorem own_rm6 (l : Launch) (Z : State) (a0 : Array Value) (hw : ∀ d ∈ tables_1, d.before a0 Z = true) (ws : List Jvm.Cond) (r : Int32) (h0 : Heap) (n0 : Nat) (Z0 : n0 ≤ h0.size) :
    MetFree l (⟨"com/example/splode/splode/document/PositionCompareToPinLaw", "sign", "(I)I"⟩ : MethodName) (head1 (Jvm.Cond.code (⟨"com/example/splode/splode/document/PositionCompareToPinLaw", "sign", "(I)I"⟩ : MethodName) method_2_code 1 (some .int) :: ws) ({ frames := 0, cells := 0, slots := 0, locals := 0 } : Room)) (fun argv U => argv = #[(.int r)] ∧ Z.Warmed39 U.vm ∧ U.heap = h0) (fun _ _ _ _ _ => True) (fun _ U o U' => ∃ v L, o = .returned v ∧ own_Q6 Z r h0 n0 v U'.heap L ∧ FrameEnd U o U' L ({ frames := 0, cells := 0, slots := 0, locals := 0 } : Room).cells ({ frames := 0, cells := 0, slots := 0, locals := 0 } : Room).slots) := by
  refine MetFree.of_bodySF (plainFor_of_name own_pn3) hisR ?_
  intro p e s m args below meth c s₁ Bd hml0 hP hK
  obtain ⟨rfl, hZ, hh⟩ := hP
  have hx := Bd.exec
  have hby := Bd.bytes
  have hml : c.maxLocals = 1 := hml0
  have hown : s.vm.findClass "com/example/splode/splode/document/PositionCompareToPinLaw" = some m.cls := findClass_of_methodNamed Bd.named
  have hnm := (name_of_methodNamed Bd.named Bd.method).1
  have X0 : Stand p l e ({ frames := 0, cells := 0, slots := 0, locals := 0 } : Room) s m #[(.int r)] below meth c s₁ [] 0 0 := Stand.of_body Bd
  have e0 : s₁.heap = h0 := by rw [← hh, Bd.state]; rfl
  have N0 := Fr.nil n0
  have pre0 : ∀ t, Steps p.tables e below (s₁.setTop (mkF m 0 #[.val (.int r)] [])) t → Steps p.tables e below (s₁.setTop (entryFrame m #[(.int r)] 1)) t := fun t k => castTop (own_ef6 m r) k
  have S1 : ∀ t, Steps p.tables e below (s₁.setTop (mkF m 1 #[.val (.int r)] [(.int r)])) t → Steps p.tables e below (s₁.setTop (entryFrame m #[(.int r)] 1)) t := fun t kt => by
    refine pre0 t ?_
    show Steps p.tables e below (s₁.setTop (mkF m 0 #[.val (.int r)] [])) t
    refine XS.iloadN X0.here hx rfl (hb hby own_d6_0) rfl ?_
    exact kt
  by_cases hc1 : r < (0 : Int32)
  · skip
    have S2 : ∀ t, Steps p.tables e below (s₁.setTop (mkF m 5 #[.val (.int r)] [(.int (-1 : Int32))])) t → Steps p.tables e below (s₁.setTop (entryFrame m #[(.int r)] 1)) t := fun t kt => by
      refine S1 t ?_
      show Steps p.tables e below (s₁.setTop (mkF m 1 #[.val (.int r)] [(.int r)])) t
      refine XS.ifNo X0.here hx rfl (hb hby own_d6_1) rfl ((if0 _ _).trans (tlt hc1).2.1) ?_
      show Steps p.tables e below (s₁.setTop (mkF m 4 #[.val (.int r)] [])) t
      refine XS.iconst X0.here hx rfl (hb hby own_d6_4) ?_
      exact kt
    obtain ⟨fs, hr, hrun, hended, hW, hsame⟩ := X0.leave (v := some (.int (-1 : Int32))) (fun h => by rw [Bd.returns] at h; cases h)
    refine ⟨_, _, S2 _ ?_, hrun, hended, _, _, rfl, ?_, ⟨_, rfl⟩, hW, hsame.mono (by decide) (by decide)⟩
    · show Steps p.tables e below (s₁.setTop (mkF m 5 #[.val (.int r)] [(.int (-1 : Int32))])) _
      exact own_retI X0 hx Bd.returns (hb hby own_d6_5) hr
    · show own_Q6 Z r h0 n0 _ s₁.heap _
      rw [e0]
      exact ⟨by simp [own_sg, *], rfl, rfl⟩
  · skip
    have S3 : ∀ t, Steps p.tables e below (s₁.setTop (mkF m 7 #[.val (.int r)] [(.int r)])) t → Steps p.tables e below (s₁.setTop (entryFrame m #[(.int r)] 1)) t := fun t kt => by
      refine S1 t ?_
      show Steps p.tables e below (s₁.setTop (mkF m 1 #[.val (.int r)] [(.int r)])) t
      refine XS.ifYes X0.here hx rfl (pc0 := 1) (pc' := 6) rfl (hb hby own_d6_1) rfl ((if0 _ _).trans (flt hc1).2.1) (by decide) (by decide) ?_
      show Steps p.tables e below (s₁.setTop (mkF m 6 #[.val (.int r)] [])) t
      refine XS.iloadN X0.here hx rfl (hb hby own_d6_6) rfl ?_
      exact kt
    by_cases hc7 : (0 : Int32) < r
    · skip
      have S4 : ∀ t, Steps p.tables e below (s₁.setTop (mkF m 11 #[.val (.int r)] [(.int (1 : Int32))])) t → Steps p.tables e below (s₁.setTop (entryFrame m #[(.int r)] 1)) t := fun t kt => by
        refine S3 t ?_
        show Steps p.tables e below (s₁.setTop (mkF m 7 #[.val (.int r)] [(.int r)])) t
        refine XS.ifNo X0.here hx rfl (hb hby own_d6_7) rfl ((if0 _ _).trans (tlt hc7).2.2.2) ?_
        show Steps p.tables e below (s₁.setTop (mkF m 10 #[.val (.int r)] [])) t
        refine XS.iconst X0.here hx rfl (hb hby own_d6_10) ?_
        exact kt
      obtain ⟨fs, hr, hrun, hended, hW, hsame⟩ := X0.leave (v := some (.int (1 : Int32))) (fun h => by rw [Bd.returns] at h; cases h)
      refine ⟨_, _, S4 _ ?_, hrun, hended, _, _, rfl, ?_, ⟨_, rfl⟩, hW, hsame.mono (by decide) (by decide)⟩
      · show Steps p.tables e below (s₁.setTop (mkF m 11 #[.val (.int r)] [(.int (1 : Int32))])) _
        exact own_retI X0 hx Bd.returns (hb hby own_d6_11) hr
      · show own_Q6 Z r h0 n0 _ s₁.heap _
        rw [e0]
        exact ⟨by simp [own_sg, *], rfl, rfl⟩
    · skip
      have S5 : ∀ t, Steps p.tables e below (s₁.setTop (mkF m 13 #[.val (.int r)] [(.int (0 : Int32))])) t → Steps p.tables e below (s₁.setTop (entryFrame m #[(.int r)] 1)) t := fun t kt => by
        refine S3 t ?_
        show Steps p.tables e below (s₁.setTop (mkF m 7 #[.val (.int r)] [(.int r)])) t
        refine XS.ifYes X0.here hx rfl (pc0 := 7) (pc' := 12) rfl (hb hby own_d6_7) rfl ((if0 _ _).trans (flt hc7).2.2.2) (by decide) (by decide) ?_
        show Steps p.tables e below (s₁.setTop (mkF m 12 #[.val (.int r)] [])) t
        refine XS.iconst X0.here hx rfl (hb hby own_d6_12) ?_
        exact kt
      obtain ⟨fs, hr, hrun, hended, hW, hsame⟩ := X0.leave (v := some (.int (0 : Int32))) (fun h => by rw [Bd.returns] at h; cases h)
      refine ⟨_, _, S5 _ ?_, hrun, hended, _, _, rfl, ?_, ⟨_, rfl⟩, hW, hsame.mono (by decide) (by decide)⟩
      · show Steps p.tables e below (s₁.setTop (mkF m 13 #[.val (.int r)] [(.int (0 : Int32))])) _
        exact own_retI X0 hx Bd.returns (hb hby own_d6_13) hr
      · show own_Q6 Z r h0 n0 _ s₁.heap _
        rw [e0]
        exact ⟨by simp [own_sg, *], rfl, rfl⟩
theorem own_pd1 : parseMethodDescriptor "(II)I" = some ⟨[.int, .int], some .int⟩ := by decide +kernel
theorem own_d4_0 : decode prog_44_method_2_code 0 = .ok (.aload_n 0, 1) := by decide +kernel
theorem own_d4_1 : decode prog_44_method_2_code 1 = .ok (.getfield 7, 3) := by decide +kernel
theorem own_d4_4 : decode prog_44_method_2_code 4 = .ok (.aload_n 1, 1) := by decide +kernel
theorem own_d4_5 : decode prog_44_method_2_code 5 = .ok (.getfield 7, 3) := by decide +kernel
theorem own_d4_8 : decode prog_44_method_2_code 8 = .ok (.invokestatic 16, 3) := by decide +kernel
theorem own_d4_11 : decode prog_44_method_2_code 11 = .ok (.istore_n 2, 1) := by decide +kernel
theorem own_d4_12 : decode prog_44_method_2_code 12 = .ok (.iload_n 2, 1) := by decide +kernel
theorem own_d4_13 : decode prog_44_method_2_code 13 = .ok (.ifCond .eq 7, 3) := by decide +kernel
theorem own_d4_16 : decode prog_44_method_2_code 16 = .ok (.iload_n 2, 1) := by decide +kernel
theorem own_d4_17 : decode prog_44_method_2_code 17 = .ok (.goto 14, 3) := by decide +kernel
theorem own_d4_20 : decode prog_44_method_2_code 20 = .ok (.aload_n 0, 1) := by decide +kernel
theorem own_d4_21 : decode prog_44_method_2_code 21 = .ok (.getfield 13, 3) := by decide +kernel
theorem own_d4_24 : decode prog_44_method_2_code 24 = .ok (.aload_n 1, 1) := by decide +kernel
theorem own_d4_25 : decode prog_44_method_2_code 25 = .ok (.getfield 13, 3) := by decide +kernel
theorem own_d4_28 : decode prog_44_method_2_code 28 = .ok (.invokestatic 16, 3) := by decide +kernel
theorem own_d4_31 : decode prog_44_method_2_code 31 = .ok (.ireturn, 1) := by decide +kernel
theorem own_ef4 (m : MethodId) (x0 : Addr) (x1 : Addr) : entryFrame m #[(.ref x0), (.ref x1)] 3 = mkF m 0 #[.val (.ref x0), .val (.ref x1), .unset] [] := by first | (simp [entryFrame, mkF, argsToLocals, Value.category]; done) | rfl
def own_Q4 (Z : State) (a : Addr) (b : Addr) (la : Int32) (ca : Int32) (lb : Int32) (cb : Int32) (h0 : Heap) (n0 : Nat) (v : Option Value) (h : Heap) (L : List Loc) : Prop := v = some (.int (own_cmpP la ca lb cb)) ∧ L = [] ∧ h = h0
set_option maxHeartbeats 40000000 in
theorem own_rm4 (l : Launch) (Z : State) (a0 : Array Value) (hw : ∀ d ∈ tables_1, d.before a0 Z = true) (ws : List Jvm.Cond) (a : Addr) (b : Addr) (la : Int32) (ca : Int32) (lb : Int32) (cb : Int32) (h0 : Heap) (n0 : Nat) (Z0 : n0 ≤ h0.size) (F_line_a : Fld Z h0 a "com/example/splode/splode/document/Position" "line" "I" (.int la)) (F_column_a : Fld Z h0 a "com/example/splode/splode/document/Position" "column" "I" (.int ca)) (F_line_b : Fld Z h0 b "com/example/splode/splode/document/Position" "line" "I" (.int lb)) (F_column_b : Fld Z h0 b "com/example/splode/splode/document/Position" "column" "I" (.int cb)) :
    MetFree l (⟨"com/example/splode/splode/document/Position", "compareTo", "(Lcom/example/splode/splode/document/Position;)I"⟩ : MethodName) (head1 (Jvm.Cond.code (⟨"com/example/splode/splode/document/Position", "compareTo", "(Lcom/example/splode/splode/document/Position;)I"⟩ : MethodName) prog_44_method_2_code 3 (some .int) :: ws) ({ frames := 1, cells := 0, slots := 0, locals := 13 } : Room)) (fun argv U => argv = #[(.ref a), (.ref b)] ∧ Z.Warmed39 U.vm ∧ U.heap = h0) (fun _ _ _ _ _ => True) (fun _ U o U' => ∃ v L, o = .returned v ∧ own_Q4 Z a b la ca lb cb h0 n0 v U'.heap L ∧ FrameEnd U o U' L ({ frames := 1, cells := 0, slots := 0, locals := 13 } : Room).cells ({ frames := 1, cells := 0, slots := 0, locals := 13 } : Room).slots) := by
  refine MetFree.of_bodySF (plainFor_of_name own_pn1) hisR ?_
  intro p e s m args below meth c s₁ Bd hml0 hP hK
  obtain ⟨rfl, hZ, hh⟩ := hP
  have hx := Bd.exec
  have hby := Bd.bytes
  have hml : c.maxLocals = 3 := hml0
  have hown : s.vm.findClass "com/example/splode/splode/document/Position" = some m.cls := findClass_of_methodNamed Bd.named
  have hnm := (name_of_methodNamed Bd.named Bd.method).1
  have X0 : Stand p l e ({ frames := 1, cells := 0, slots := 0, locals := 13 } : Room) s m #[(.ref a), (.ref b)] below meth c s₁ [] 0 0 := Stand.of_body Bd
  have e0 : s₁.heap = h0 := by rw [← hh, Bd.state]; rfl
  have N0 := Fr.nil n0
  have pre0 : ∀ t, Steps p.tables e below (s₁.setTop (mkF m 0 #[.val (.ref a), .val (.ref b), .unset] [])) t → Steps p.tables e below (s₁.setTop (entryFrame m #[(.ref a), (.ref b)] 3)) t := fun t k => castTop (own_ef4 m a b) k
  have S1 : ∀ t, Steps p.tables e below (s₁.setTop (mkF m 1 #[.val (.ref a), .val (.ref b), .unset] [(.ref a)])) t → Steps p.tables e below (s₁.setTop (entryFrame m #[(.ref a), (.ref b)] 3)) t := fun t kt => by
    refine pre0 t ?_
    show Steps p.tables e below (s₁.setTop (mkF m 0 #[.val (.ref a), .val (.ref b), .unset] [])) t
    refine XS.aloadN X0.here hx rfl (hb hby own_d4_0) rfl rfl ?_
    exact kt
  obtain ⟨T2, X2, e2, st2⟩ := getF X0 hx hZ hown (host := "") (Or.inl (hw _ (List.mem_of_getElem? (i := 14) rfl))) Via.refl e0 F_line_a (g := (mkF m 1 #[.val (.ref a), .val (.ref b), .unset] [(.ref a)])) rfl rfl (hb hby own_d4_1)
  have S3 : ∀ t, Steps p.tables e below (T2.setTop (mkF m 4 #[.val (.ref a), .val (.ref b), .unset] [(.int la)])) t → Steps p.tables e below (s₁.setTop (entryFrame m #[(.ref a), (.ref b)] 3)) t := fun t kt => S1 t (st2 _ kt)
  have S4 : ∀ t, Steps p.tables e below (T2.setTop (mkF m 5 #[.val (.ref a), .val (.ref b), .unset] [(.ref b), (.int la)])) t → Steps p.tables e below (s₁.setTop (entryFrame m #[(.ref a), (.ref b)] 3)) t := fun t kt => by
    refine S3 t ?_
    show Steps p.tables e below (T2.setTop (mkF m 4 #[.val (.ref a), .val (.ref b), .unset] [(.int la)])) t
    refine XS.aloadN X2.here hx rfl (hb hby own_d4_4) rfl rfl ?_
    exact kt
  obtain ⟨T5, X5, e5, st5⟩ := getF X2 hx hZ hown (host := "") (Or.inl (hw _ (List.mem_of_getElem? (i := 14) rfl))) Via.refl e2 F_line_b (g := (mkF m 5 #[.val (.ref a), .val (.ref b), .unset] [(.ref b), (.int la)])) rfl rfl (hb hby own_d4_5)
  have S6 : ∀ t, Steps p.tables e below (T5.setTop (mkF m 8 #[.val (.ref a), .val (.ref b), .unset] [(.int lb), (.int la)])) t → Steps p.tables e below (s₁.setTop (entryFrame m #[(.ref a), (.ref b)] 3)) t := fun t kt => S4 t (st5 _ kt)
  obtain ⟨_, _, ⟨T8, L8, k8, n8⟩, -, X8, ⟨Lc8, hQ8, l8, y8, z8⟩, st8⟩ := Jvm.LawKit.callS X5 hx (y := (⟨"java/lang/Integer", "compare", "(II)I"⟩ : MethodName)) hown (mvT hZ (hw _ (List.mem_of_getElem? (i := 23) rfl))) (mvT hZ (hw _ (List.mem_of_getElem? (i := 24) rfl))) (mvT hZ (hw _ (List.mem_of_getElem? (i := 25) rfl))) (mvT hZ (hw _ (List.mem_of_getElem? (i := 26) rfl))) (by decide) (backOf (W := 0) (own_rm5 l Z a0 hw [] (la) (lb) h0 n0 Z0) hZ (hw _ (List.mem_of_getElem? (i := 26) rfl)) (hw _ (List.mem_of_getElem? (i := 25) rfl)) (by decide) (by decide)) (g := (mkF m 8 #[.val (.ref a), .val (.ref b), .unset] [(.int lb), (.int la)])) rfl (by rw [hml]; rfl) (argsL := [(.int la), (.int lb)]) (rest := []) (lenOf own_pd1 rfl) rfl (by show 2 * 0 + _ ≤ _; exact Nat.le_of_eq rfl) (hb hby own_d4_8) (fun _ _ => ⟨rfl, e5, (by decide : 0 + 0 ≤ _), (by decide : 0 + 0 ≤ _)⟩)
  dsimp only [Pt.U, Pt.locs, Pt.cells, Pt.slots] at X8 l8 y8 z8 st8 hQ8
  subst l8 y8 z8
  obtain ⟨rfl, rfl, eq7⟩ := hQ8
  try rw [List.append_nil] at X8
  have S9 : ∀ t, Steps p.tables e below (T8.setTop (mkF m 11 #[.val (.ref a), .val (.ref b), .unset] [(.int (own_ic la lb))])) t → Steps p.tables e below (s₁.setTop (entryFrame m #[(.ref a), (.ref b)] 3)) t := fun t kt => S6 t (st8 _ kt)
  have S10 : ∀ t, Steps p.tables e below (T8.setTop (mkF m 13 #[.val (.ref a), .val (.ref b), .val (.int (own_ic la lb))] [(.int (own_ic la lb))])) t → Steps p.tables e below (s₁.setTop (entryFrame m #[(.ref a), (.ref b)] 3)) t := fun t kt => by
    refine S9 t ?_
    show Steps p.tables e below (T8.setTop (mkF m 11 #[.val (.ref a), .val (.ref b), .unset] [(.int (own_ic la lb))])) t
    refine XS.istoreN X8.here hx rfl (hb hby own_d4_11) rfl (l' := #[.val (.ref a), .val (.ref b), .val (.int (own_ic la lb))]) rfl ?_
    show Steps p.tables e below (T8.setTop (mkF m 12 #[.val (.ref a), .val (.ref b), .val (.int (own_ic la lb))] [])) t
    refine XS.iloadN X8.here hx rfl (hb hby own_d4_12) rfl ?_
    exact kt
  by_cases hc13 : (own_ic la lb) = (0 : Int32)
  · skip
    have S11 : ∀ t, Steps p.tables e below (T8.setTop (mkF m 21 #[.val (.ref a), .val (.ref b), .val (.int (own_ic la lb))] [(.ref a)])) t → Steps p.tables e below (s₁.setTop (entryFrame m #[(.ref a), (.ref b)] 3)) t := fun t kt => by
      refine S10 t ?_
      show Steps p.tables e below (T8.setTop (mkF m 13 #[.val (.ref a), .val (.ref b), .val (.int (own_ic la lb))] [(.int (own_ic la lb))])) t
      refine XS.ifYes X8.here hx rfl (pc0 := 13) (pc' := 20) rfl (hb hby own_d4_13) rfl ((if0 _ _).trans (teq hc13).1) (by decide) (by decide) ?_
      show Steps p.tables e below (T8.setTop (mkF m 20 #[.val (.ref a), .val (.ref b), .val (.int (own_ic la lb))] [])) t
      refine XS.aloadN X8.here hx rfl (hb hby own_d4_20) rfl rfl ?_
      exact kt
    obtain ⟨T12, X12, e12, st12⟩ := getF X8 hx hZ hown (host := "") (Or.inl (hw _ (List.mem_of_getElem? (i := 16) rfl))) Via.refl eq7 F_column_a (g := (mkF m 21 #[.val (.ref a), .val (.ref b), .val (.int (own_ic la lb))] [(.ref a)])) rfl rfl (hb hby own_d4_21)
    have S13 : ∀ t, Steps p.tables e below (T12.setTop (mkF m 24 #[.val (.ref a), .val (.ref b), .val (.int (own_ic la lb))] [(.int ca)])) t → Steps p.tables e below (s₁.setTop (entryFrame m #[(.ref a), (.ref b)] 3)) t := fun t kt => S11 t (st12 _ kt)
    have S14 : ∀ t, Steps p.tables e below (T12.setTop (mkF m 25 #[.val (.ref a), .val (.ref b), .val (.int (own_ic la lb))] [(.ref b), (.int ca)])) t → Steps p.tables e below (s₁.setTop (entryFrame m #[(.ref a), (.ref b)] 3)) t := fun t kt => by
      refine S13 t ?_
      show Steps p.tables e below (T12.setTop (mkF m 24 #[.val (.ref a), .val (.ref b), .val (.int (own_ic la lb))] [(.int ca)])) t
      refine XS.aloadN X12.here hx rfl (hb hby own_d4_24) rfl rfl ?_
      exact kt
    obtain ⟨T15, X15, e15, st15⟩ := getF X12 hx hZ hown (host := "") (Or.inl (hw _ (List.mem_of_getElem? (i := 16) rfl))) Via.refl e12 F_column_b (g := (mkF m 25 #[.val (.ref a), .val (.ref b), .val (.int (own_ic la lb))] [(.ref b), (.int ca)])) rfl rfl (hb hby own_d4_25)
    have S16 : ∀ t, Steps p.tables e below (T15.setTop (mkF m 28 #[.val (.ref a), .val (.ref b), .val (.int (own_ic la lb))] [(.int cb), (.int ca)])) t → Steps p.tables e below (s₁.setTop (entryFrame m #[(.ref a), (.ref b)] 3)) t := fun t kt => S14 t (st15 _ kt)
    obtain ⟨_, _, ⟨T18, L18, k18, n18⟩, -, X18, ⟨Lc18, hQ18, l18, y18, z18⟩, st18⟩ := Jvm.LawKit.callS X15 hx (y := (⟨"java/lang/Integer", "compare", "(II)I"⟩ : MethodName)) hown (mvT hZ (hw _ (List.mem_of_getElem? (i := 23) rfl))) (mvT hZ (hw _ (List.mem_of_getElem? (i := 24) rfl))) (mvT hZ (hw _ (List.mem_of_getElem? (i := 25) rfl))) (mvT hZ (hw _ (List.mem_of_getElem? (i := 26) rfl))) (by decide) (backOf (W := 0) (own_rm5 l Z a0 hw [] (ca) (cb) h0 n0 Z0) hZ (hw _ (List.mem_of_getElem? (i := 26) rfl)) (hw _ (List.mem_of_getElem? (i := 25) rfl)) (by decide) (by decide)) (g := (mkF m 28 #[.val (.ref a), .val (.ref b), .val (.int (own_ic la lb))] [(.int cb), (.int ca)])) rfl (by rw [hml]; rfl) (argsL := [(.int ca), (.int cb)]) (rest := []) (lenOf own_pd1 rfl) rfl (by show 2 * 0 + _ ≤ _; exact Nat.le_of_eq rfl) (hb hby own_d4_28) (fun _ _ => ⟨rfl, e15, (by decide : 0 + 0 ≤ _), (by decide : 0 + 0 ≤ _)⟩)
    dsimp only [Pt.U, Pt.locs, Pt.cells, Pt.slots] at X18 l18 y18 z18 st18 hQ18
    subst l18 y18 z18
    obtain ⟨rfl, rfl, eq17⟩ := hQ18
    try rw [List.append_nil] at X18
    have S19 : ∀ t, Steps p.tables e below (T18.setTop (mkF m 31 #[.val (.ref a), .val (.ref b), .val (.int (own_ic la lb))] [(.int (own_ic ca cb))])) t → Steps p.tables e below (s₁.setTop (entryFrame m #[(.ref a), (.ref b)] 3)) t := fun t kt => S16 t (st18 _ kt)
    obtain ⟨fs, hr, hrun, hended, hW, hsame⟩ := X18.leave (v := some (.int (own_ic ca cb))) (fun h => by rw [Bd.returns] at h; cases h)
    refine ⟨_, _, S19 _ ?_, hrun, hended, _, _, rfl, ?_, ⟨_, rfl⟩, hW, hsame.mono (by decide) (by decide)⟩
    · show Steps p.tables e below (T18.setTop (mkF m 31 #[.val (.ref a), .val (.ref b), .val (.int (own_ic la lb))] [(.int (own_ic ca cb))])) _
      exact own_retI X18 hx Bd.returns (hb hby own_d4_31) hr
    · show own_Q4 Z a b la ca lb cb h0 n0 _ T18.heap _
      rw [eq17]
      exact ⟨by simp [own_cmpP, *], rfl, rfl⟩
  · skip
    have S20 : ∀ t, Steps p.tables e below (T8.setTop (mkF m 31 #[.val (.ref a), .val (.ref b), .val (.int (own_ic la lb))] [(.int (own_ic la lb))])) t → Steps p.tables e below (s₁.setTop (entryFrame m #[(.ref a), (.ref b)] 3)) t := fun t kt => by
      refine S10 t ?_
      show Steps p.tables e below (T8.setTop (mkF m 13 #[.val (.ref a), .val (.ref b), .val (.int (own_ic la lb))] [(.int (own_ic la lb))])) t
      refine XS.ifNo X8.here hx rfl (hb hby own_d4_13) rfl ((if0 _ _).trans (feq hc13).1) ?_
      show Steps p.tables e below (T8.setTop (mkF m 16 #[.val (.ref a), .val (.ref b), .val (.int (own_ic la lb))] [])) t
      refine XS.iloadN X8.here hx rfl (hb hby own_d4_16) rfl ?_
      show Steps p.tables e below (T8.setTop (mkF m 17 #[.val (.ref a), .val (.ref b), .val (.int (own_ic la lb))] [(.int (own_ic la lb))])) t
      refine XS.goto X8.here hx rfl (pc0 := 17) (pc' := 31) rfl (hb hby own_d4_17) (by decide) (by decide) ?_
      exact kt
    obtain ⟨fs, hr, hrun, hended, hW, hsame⟩ := X8.leave (v := some (.int (own_ic la lb))) (fun h => by rw [Bd.returns] at h; cases h)
    refine ⟨_, _, S20 _ ?_, hrun, hended, _, _, rfl, ?_, ⟨_, rfl⟩, hW, hsame.mono (by decide) (by decide)⟩
    · show Steps p.tables e below (T8.setTop (mkF m 31 #[.val (.ref a), .val (.ref b), .val (.int (own_ic la lb))] [(.int (own_ic la lb))])) _
      exact own_retI X8 hx Bd.returns (hb hby own_d4_31) hr
    · show own_Q4 Z a b la ca lb cb h0 n0 _ T8.heap _
      rw [eq7]
      exact ⟨by simp [own_cmpP, *], rfl, rfl⟩
theorem own_pd2 : parseMethodDescriptor "(II)V" = some ⟨[.int, .int], none⟩ := by decide +kernel
theorem own_pd3 : parseMethodDescriptor "(Lcom/example/splode/splode/document/Position;)I" = some ⟨[(.object "com/example/splode/splode/document/Position")], some .int⟩ := by decide +kernel
theorem own_pd4 : parseMethodDescriptor "(I)I" = some ⟨[.int], some .int⟩ := by decide +kernel
theorem own_ef0 (m : MethodId) (x0 : Int32) (x1 : Int32) (x2 : Int32) (x3 : Int32) (x4 : Int32) : entryFrame m #[(.int x0), (.int x1), (.int x2), (.int x3), (.int x4)] maxLocals = mkF m 0 #[.val (.int x0), .val (.int x1), .val (.int x2), .val (.int x3), .val (.int x4), .unset, .unset, .unset, .unset, .unset, .unset, .unset] [] := by first | (simp [entryFrame, mkF, argsToLocals, Value.category, maxLocals]; done) | rfl
def own_Q0 (Z : State) (l1 : Int32) (c1 : Int32) (l2 : Int32) (c2 : Int32) (f : Int32) (h0 : Heap) (n0 : Nat) (v : Option Value) (h : Heap) (L : List Loc) : Prop := v = some (.int (1 : Int32)) ∧ Fr n0 L
set_option maxHeartbeats 40000000 in
theorem own_rm0 (l : Launch) (Z : State) (a0 : Array Value) (hw : ∀ d ∈ tables_1, d.before a0 Z = true) (ws : List Jvm.Cond) (l1 : Int32) (c1 : Int32) (l2 : Int32) (c2 : Int32) (f : Int32) (h0 : Heap) (n0 : Nat) (Z0 : n0 ≤ h0.size) :
    MetFree l x (head1 (Jvm.Cond.code x code maxLocals ret :: ws) room_1) (fun argv U => argv = #[(.int l1), (.int c1), (.int l2), (.int c2), (.int f)] ∧ Z.Warmed39 U.vm ∧ U.heap = h0) (fun _ _ _ _ _ => True) (fun _ U o U' => ∃ v L, o = .returned v ∧ own_Q0 Z l1 c1 l2 c2 f h0 n0 v U'.heap L ∧ FrameEnd U o U' L room_1.cells room_1.slots) := by
  refine MetFree.of_bodySF (plainFor_of_name own_pn3) hisR ?_
  intro p e s m args below meth c s₁ Bd hml0 hP hK
  obtain ⟨rfl, hZ, hh⟩ := hP
  have hx := Bd.exec
  have hby := Bd.bytes
  have hml : c.maxLocals = 12 := hml0
  have hown : s.vm.findClass "com/example/splode/splode/document/PositionCompareToPinLaw" = some m.cls := findClass_of_methodNamed Bd.named
  have hnm := (name_of_methodNamed Bd.named Bd.method).1
  have X0 : Stand p l e room_1 s m #[(.int l1), (.int c1), (.int l2), (.int c2), (.int f)] below meth c s₁ [] 0 0 := Stand.of_body Bd
  have e0 : s₁.heap = h0 := by rw [← hh, Bd.state]; rfl
  have N0 := Fr.nil n0
  have pre0 : ∀ t, Steps p.tables e below (s₁.setTop (mkF m 0 #[.val (.int l1), .val (.int c1), .val (.int l2), .val (.int c2), .val (.int f), .unset, .unset, .unset, .unset, .unset, .unset, .unset] [])) t → Steps p.tables e below (s₁.setTop (entryFrame m #[(.int l1), (.int c1), (.int l2), (.int c2), (.int f)] maxLocals)) t := fun t k => castTop (own_ef0 m l1 c1 l2 c2 f) k
  obtain ⟨T1, ll2, X1, e1, S1⟩ : ∃ (T' : State) (ll2 : Int32), own_like X0 T' ∧ T'.heap = h0 ∧ (∀ t, Steps p.tables e below (T'.setTop (mkF m 12 #[.val (.int l1), .val (.int c1), .val (.int l2), .val (.int c2), .val (.int f), .unset, .unset, .unset, .unset, .unset, .unset, .unset] [(.int ll2)])) t → Steps p.tables e below (s₁.setTop (entryFrame m #[(.int l1), (.int c1), (.int l2), (.int c2), (.int f)] maxLocals)) t) := by
    have S2 : ∀ t, Steps p.tables e below (s₁.setTop (mkF m 4 #[.val (.int l1), .val (.int c1), .val (.int l2), .val (.int c2), .val (.int f), .unset, .unset, .unset, .unset, .unset, .unset, .unset] [(.int (f &&& (1 : Int32)))])) t → Steps p.tables e below (s₁.setTop (entryFrame m #[(.int l1), (.int c1), (.int l2), (.int c2), (.int f)] maxLocals)) t := fun t kt => by
      refine pre0 t ?_
      show Steps p.tables e below (s₁.setTop (mkF m 0 #[.val (.int l1), .val (.int c1), .val (.int l2), .val (.int c2), .val (.int f), .unset, .unset, .unset, .unset, .unset, .unset, .unset] [])) t
      refine XS.iload X0.here hx rfl (hb hby at_0) rfl ?_
      show Steps p.tables e below (s₁.setTop (mkF m 2 #[.val (.int l1), .val (.int c1), .val (.int l2), .val (.int c2), .val (.int f), .unset, .unset, .unset, .unset, .unset, .unset, .unset] [(.int f)])) t
      refine XS.iconst X0.here hx rfl (hb hby at_2) ?_
      show Steps p.tables e below (s₁.setTop (mkF m 3 #[.val (.int l1), .val (.int c1), .val (.int l2), .val (.int c2), .val (.int f), .unset, .unset, .unset, .unset, .unset, .unset, .unset] [(.int (1 : Int32)), (.int f)])) t
      refine XS.iand X0.here hx rfl (hb hby at_3) rfl ?_
      exact kt
    by_cases hc4 : (f &&& (1 : Int32)) = (0 : Int32)
    · skip
      have S3 : ∀ t, Steps p.tables e below (s₁.setTop (mkF m 12 #[.val (.int l1), .val (.int c1), .val (.int l2), .val (.int c2), .val (.int f), .unset, .unset, .unset, .unset, .unset, .unset, .unset] [(.int l2)])) t → Steps p.tables e below (s₁.setTop (entryFrame m #[(.int l1), (.int c1), (.int l2), (.int c2), (.int f)] maxLocals)) t := fun t kt => by
        refine S2 t ?_
        show Steps p.tables e below (s₁.setTop (mkF m 4 #[.val (.int l1), .val (.int c1), .val (.int l2), .val (.int c2), .val (.int f), .unset, .unset, .unset, .unset, .unset, .unset, .unset] [(.int (f &&& (1 : Int32)))])) t
        refine XS.ifYes X0.here hx rfl (pc0 := 4) (pc' := 11) rfl (hb hby at_4) rfl ((if0 _ _).trans (teq hc4).1) (by decide) (by decide) ?_
        show Steps p.tables e below (s₁.setTop (mkF m 11 #[.val (.int l1), .val (.int c1), .val (.int l2), .val (.int c2), .val (.int f), .unset, .unset, .unset, .unset, .unset, .unset, .unset] [])) t
        refine XS.iloadN X0.here hx rfl (hb hby at_11) rfl ?_
        exact kt
      exact ⟨s₁, (l2), X0, e0, S3⟩
    · skip
      have S4 : ∀ t, Steps p.tables e below (s₁.setTop (mkF m 12 #[.val (.int l1), .val (.int c1), .val (.int l2), .val (.int c2), .val (.int f), .unset, .unset, .unset, .unset, .unset, .unset, .unset] [(.int l1)])) t → Steps p.tables e below (s₁.setTop (entryFrame m #[(.int l1), (.int c1), (.int l2), (.int c2), (.int f)] maxLocals)) t := fun t kt => by
        refine S2 t ?_
        show Steps p.tables e below (s₁.setTop (mkF m 4 #[.val (.int l1), .val (.int c1), .val (.int l2), .val (.int c2), .val (.int f), .unset, .unset, .unset, .unset, .unset, .unset, .unset] [(.int (f &&& (1 : Int32)))])) t
        refine XS.ifNo X0.here hx rfl (hb hby at_4) rfl ((if0 _ _).trans (feq hc4).1) ?_
        show Steps p.tables e below (s₁.setTop (mkF m 7 #[.val (.int l1), .val (.int c1), .val (.int l2), .val (.int c2), .val (.int f), .unset, .unset, .unset, .unset, .unset, .unset, .unset] [])) t
        refine XS.iloadN X0.here hx rfl (hb hby at_7) rfl ?_
        show Steps p.tables e below (s₁.setTop (mkF m 8 #[.val (.int l1), .val (.int c1), .val (.int l2), .val (.int c2), .val (.int f), .unset, .unset, .unset, .unset, .unset, .unset, .unset] [(.int l1)])) t
        refine XS.goto X0.here hx rfl (pc0 := 8) (pc' := 12) rfl (hb hby at_8) (by decide) (by decide) ?_
        exact kt
      exact ⟨s₁, (l1), X0, e0, S4⟩
  have S5 : ∀ t, Steps p.tables e below (T1.setTop (mkF m 14 #[.val (.int l1), .val (.int c1), .val (.int l2), .val (.int c2), .val (.int f), .val (.int ll2), .unset, .unset, .unset, .unset, .unset, .unset] [])) t → Steps p.tables e below (s₁.setTop (entryFrame m #[(.int l1), (.int c1), (.int l2), (.int c2), (.int f)] maxLocals)) t := fun t kt => by
    refine S1 t ?_
    show Steps p.tables e below (T1.setTop (mkF m 12 #[.val (.int l1), .val (.int c1), .val (.int l2), .val (.int c2), .val (.int f), .unset, .unset, .unset, .unset, .unset, .unset, .unset] [(.int ll2)])) t
    refine XS.istore X1.here hx rfl (hb hby at_12) rfl (l' := #[.val (.int l1), .val (.int c1), .val (.int l2), .val (.int c2), .val (.int f), .val (.int ll2), .unset, .unset, .unset, .unset, .unset, .unset]) rfl ?_
    exact kt
  obtain ⟨T6, cc2, X6, e6, S6⟩ : ∃ (T' : State) (cc2 : Int32), own_like X1 T' ∧ T'.heap = h0 ∧ (∀ t, Steps p.tables e below (T'.setTop (mkF m 26 #[.val (.int l1), .val (.int c1), .val (.int l2), .val (.int c2), .val (.int f), .val (.int ll2), .unset, .unset, .unset, .unset, .unset, .unset] [(.int cc2)])) t → Steps p.tables e below (s₁.setTop (entryFrame m #[(.int l1), (.int c1), (.int l2), (.int c2), (.int f)] maxLocals)) t) := by
    have S7 : ∀ t, Steps p.tables e below (T1.setTop (mkF m 18 #[.val (.int l1), .val (.int c1), .val (.int l2), .val (.int c2), .val (.int f), .val (.int ll2), .unset, .unset, .unset, .unset, .unset, .unset] [(.int (f &&& (2 : Int32)))])) t → Steps p.tables e below (s₁.setTop (entryFrame m #[(.int l1), (.int c1), (.int l2), (.int c2), (.int f)] maxLocals)) t := fun t kt => by
      refine S5 t ?_
      show Steps p.tables e below (T1.setTop (mkF m 14 #[.val (.int l1), .val (.int c1), .val (.int l2), .val (.int c2), .val (.int f), .val (.int ll2), .unset, .unset, .unset, .unset, .unset, .unset] [])) t
      refine XS.iload X1.here hx rfl (hb hby at_14) rfl ?_
      show Steps p.tables e below (T1.setTop (mkF m 16 #[.val (.int l1), .val (.int c1), .val (.int l2), .val (.int c2), .val (.int f), .val (.int ll2), .unset, .unset, .unset, .unset, .unset, .unset] [(.int f)])) t
      refine XS.iconst X1.here hx rfl (hb hby at_16) ?_
      show Steps p.tables e below (T1.setTop (mkF m 17 #[.val (.int l1), .val (.int c1), .val (.int l2), .val (.int c2), .val (.int f), .val (.int ll2), .unset, .unset, .unset, .unset, .unset, .unset] [(.int (2 : Int32)), (.int f)])) t
      refine XS.iand X1.here hx rfl (hb hby at_17) rfl ?_
      exact kt
    by_cases hc18 : (f &&& (2 : Int32)) = (0 : Int32)
    · skip
      have S8 : ∀ t, Steps p.tables e below (T1.setTop (mkF m 26 #[.val (.int l1), .val (.int c1), .val (.int l2), .val (.int c2), .val (.int f), .val (.int ll2), .unset, .unset, .unset, .unset, .unset, .unset] [(.int c2)])) t → Steps p.tables e below (s₁.setTop (entryFrame m #[(.int l1), (.int c1), (.int l2), (.int c2), (.int f)] maxLocals)) t := fun t kt => by
        refine S7 t ?_
        show Steps p.tables e below (T1.setTop (mkF m 18 #[.val (.int l1), .val (.int c1), .val (.int l2), .val (.int c2), .val (.int f), .val (.int ll2), .unset, .unset, .unset, .unset, .unset, .unset] [(.int (f &&& (2 : Int32)))])) t
        refine XS.ifYes X1.here hx rfl (pc0 := 18) (pc' := 25) rfl (hb hby at_18) rfl ((if0 _ _).trans (teq hc18).1) (by decide) (by decide) ?_
        show Steps p.tables e below (T1.setTop (mkF m 25 #[.val (.int l1), .val (.int c1), .val (.int l2), .val (.int c2), .val (.int f), .val (.int ll2), .unset, .unset, .unset, .unset, .unset, .unset] [])) t
        refine XS.iloadN X1.here hx rfl (hb hby at_25) rfl ?_
        exact kt
      exact ⟨T1, (c2), X1, e1, S8⟩
    · skip
      have S9 : ∀ t, Steps p.tables e below (T1.setTop (mkF m 26 #[.val (.int l1), .val (.int c1), .val (.int l2), .val (.int c2), .val (.int f), .val (.int ll2), .unset, .unset, .unset, .unset, .unset, .unset] [(.int c1)])) t → Steps p.tables e below (s₁.setTop (entryFrame m #[(.int l1), (.int c1), (.int l2), (.int c2), (.int f)] maxLocals)) t := fun t kt => by
        refine S7 t ?_
        show Steps p.tables e below (T1.setTop (mkF m 18 #[.val (.int l1), .val (.int c1), .val (.int l2), .val (.int c2), .val (.int f), .val (.int ll2), .unset, .unset, .unset, .unset, .unset, .unset] [(.int (f &&& (2 : Int32)))])) t
        refine XS.ifNo X1.here hx rfl (hb hby at_18) rfl ((if0 _ _).trans (feq hc18).1) ?_
        show Steps p.tables e below (T1.setTop (mkF m 21 #[.val (.int l1), .val (.int c1), .val (.int l2), .val (.int c2), .val (.int f), .val (.int ll2), .unset, .unset, .unset, .unset, .unset, .unset] [])) t
        refine XS.iloadN X1.here hx rfl (hb hby at_21) rfl ?_
        show Steps p.tables e below (T1.setTop (mkF m 22 #[.val (.int l1), .val (.int c1), .val (.int l2), .val (.int c2), .val (.int f), .val (.int ll2), .unset, .unset, .unset, .unset, .unset, .unset] [(.int c1)])) t
        refine XS.goto X1.here hx rfl (pc0 := 22) (pc' := 26) rfl (hb hby at_22) (by decide) (by decide) ?_
        exact kt
      exact ⟨T1, (c1), X1, e1, S9⟩
  have S10 : ∀ t, Steps p.tables e below (T6.setTop (mkF m 28 #[.val (.int l1), .val (.int c1), .val (.int l2), .val (.int c2), .val (.int f), .val (.int ll2), .val (.int cc2), .unset, .unset, .unset, .unset, .unset] [])) t → Steps p.tables e below (s₁.setTop (entryFrame m #[(.int l1), (.int c1), (.int l2), (.int c2), (.int f)] maxLocals)) t := fun t kt => by
    refine S6 t ?_
    show Steps p.tables e below (T6.setTop (mkF m 26 #[.val (.int l1), .val (.int c1), .val (.int l2), .val (.int c2), .val (.int f), .val (.int ll2), .unset, .unset, .unset, .unset, .unset, .unset] [(.int cc2)])) t
    refine XS.istore X6.here hx rfl (hb hby at_26) rfl (l' := #[.val (.int l1), .val (.int c1), .val (.int l2), .val (.int c2), .val (.int f), .val (.int ll2), .val (.int cc2), .unset, .unset, .unset, .unset, .unset]) rfl ?_
    exact kt
  obtain ⟨T11, h11, X11, e11, E11, A11, D11, -, st11⟩ := newO X6 hx hZ hown (hw _ (List.mem_of_getElem? (i := 0) rfl)) (hw _ (List.mem_of_getElem? (i := 1) rfl)) (hw _ (List.mem_of_getElem? (i := 2) rfl)) e6 (g := (mkF m 28 #[.val (.int l1), .val (.int c1), .val (.int l2), .val (.int c2), .val (.int f), .val (.int ll2), .val (.int cc2), .unset, .unset, .unset, .unset, .unset] [])) rfl (hb hby at_28) (by decide) (by decide)
  obtain ⟨b11, g11⟩ : ∃ z, z = h0.size := ⟨_, rfl⟩
  rw [← g11] at A11 D11 st11
  have S12 : ∀ t, Steps p.tables e below (T11.setTop (mkF m 31 #[.val (.int l1), .val (.int c1), .val (.int l2), .val (.int c2), .val (.int f), .val (.int ll2), .val (.int cc2), .unset, .unset, .unset, .unset, .unset] [(.ref b11)])) t → Steps p.tables e below (s₁.setTop (entryFrame m #[(.int l1), (.int c1), (.int l2), (.int c2), (.int f)] maxLocals)) t := fun t kt => S10 t (st11 _ kt)
  have g_b11 : n0 ≤ b11 := Nat.le_trans Z0 (Nat.le_of_eq g11.symm)
  have sz_b11 : h0.size ≤ b11 := Nat.le_trans (Keep.refl h0 []).1 (Nat.le_of_eq g11.symm)
  have K13 : Keep h0 h11 [] := (Keep.refl h0 []).ext E11
  have F14 : Fld Z h11 b11 "com/example/splode/splode/document/Position" "line" "I" (.int (0 : Int32)) := D11 (Or.inr (hw _ (List.mem_of_getElem? (i := 15) rfl))) (ty := .int) (by decide)
  have F15 : Fld Z h11 b11 "com/example/splode/splode/document/Position" "column" "I" (.int (0 : Int32)) := D11 (Or.inr (hw _ (List.mem_of_getElem? (i := 17) rfl))) (ty := .int) (by decide)
  have S18 : ∀ t, Steps p.tables e below (T11.setTop (mkF m 34 #[.val (.int l1), .val (.int c1), .val (.int l2), .val (.int c2), .val (.int f), .val (.int ll2), .val (.int cc2), .unset, .unset, .unset, .unset, .unset] [(.int c1), (.int l1), (.ref b11), (.ref b11)])) t → Steps p.tables e below (s₁.setTop (entryFrame m #[(.int l1), (.int c1), (.int l2), (.int c2), (.int f)] maxLocals)) t := fun t kt => by
    refine S12 t ?_
    show Steps p.tables e below (T11.setTop (mkF m 31 #[.val (.int l1), .val (.int c1), .val (.int l2), .val (.int c2), .val (.int f), .val (.int ll2), .val (.int cc2), .unset, .unset, .unset, .unset, .unset] [(.ref b11)])) t
    refine XS.dup X11.here hx rfl (hb hby at_31) rfl rfl ?_
    show Steps p.tables e below (T11.setTop (mkF m 32 #[.val (.int l1), .val (.int c1), .val (.int l2), .val (.int c2), .val (.int f), .val (.int ll2), .val (.int cc2), .unset, .unset, .unset, .unset, .unset] [(.ref b11), (.ref b11)])) t
    refine XS.iloadN X11.here hx rfl (hb hby at_32) rfl ?_
    show Steps p.tables e below (T11.setTop (mkF m 33 #[.val (.int l1), .val (.int c1), .val (.int l2), .val (.int c2), .val (.int f), .val (.int ll2), .val (.int cc2), .unset, .unset, .unset, .unset, .unset] [(.int l1), (.ref b11), (.ref b11)])) t
    refine XS.iloadN X11.here hx rfl (hb hby at_33) rfl ?_
    exact kt
  obtain ⟨_, _, ⟨T19, L19, k19, n19⟩, -, X19, ⟨Lc19, hQ19, l19, y19, z19⟩, st19⟩ := X11.specialBack hx (y := (⟨"com/example/splode/splode/document/Position", "<init>", "(II)V"⟩ : MethodName)) rfl hown (mvT hZ (hw _ (List.mem_of_getElem? (i := 3) rfl))) (mvT hZ (hw _ (List.mem_of_getElem? (i := 4) rfl))) (mvT hZ (hw _ (List.mem_of_getElem? (i := 5) rfl))) (by decide) (backOf (W := 1) (own_rm1 l Z a0 hw [] (b11) (l1) (c1) ((.int (0 : Int32))) ((.int (0 : Int32))) h11 n0 (Nat.le_trans Z0 K13.1) A11 g_b11 F14 F15) hZ (hw _ (List.mem_of_getElem? (i := 5) rfl)) (hw _ (List.mem_of_getElem? (i := 2) rfl)) (by decide) (by decide)) (g := (mkF m 34 #[.val (.int l1), .val (.int c1), .val (.int l2), .val (.int c2), .val (.int f), .val (.int ll2), .val (.int cc2), .unset, .unset, .unset, .unset, .unset] [(.int c1), (.int l1), (.ref b11), (.ref b11)])) rfl (by rw [hml]; rfl) (Steps.refl _) (a := b11) (argsL := [(.int l1), (.int c1)]) (rest := [(.ref b11)]) (lenOf own_pd2 rfl) rfl (by show 2 * 0 + _ ≤ _; exact Nat.le_of_eq rfl) (hb hby at_34) (fun _ _ => ⟨rfl, e11, (by decide : 1 + 0 ≤ _), (by decide : 2 + 0 ≤ _)⟩)
  dsimp only [Pt.U, Pt.locs, Pt.cells, Pt.slots] at X19 l19 y19 z19 st19 hQ19
  subst l19 y19 z19
  obtain ⟨rfl, Nq19, Kc16, Ec16, Fc16_line, Fc16_column⟩ := hQ19
  have N20 := Fr.app N0 Nq19
  have S21 : ∀ t, Steps p.tables e below (T19.setTop (mkF m 37 #[.val (.int l1), .val (.int c1), .val (.int l2), .val (.int c2), .val (.int f), .val (.int ll2), .val (.int cc2), .unset, .unset, .unset, .unset, .unset] [(.ref b11)])) t → Steps p.tables e below (s₁.setTop (entryFrame m #[(.int l1), (.int c1), (.int l2), (.int c2), (.int f)] maxLocals)) t := fun t kt => S18 t (st19.trans kt)
  have F22 := A11.keep Kc16
  have K23 : Keep h0 T19.heap [] := K13.trans Kc16 (allS (Or.inr sz_b11) all0)
  have S24 : ∀ t, Steps p.tables e below (T19.setTop (mkF m 39 #[.val (.int l1), .val (.int c1), .val (.int l2), .val (.int c2), .val (.int f), .val (.int ll2), .val (.int cc2), .val (.ref b11), .unset, .unset, .unset, .unset] [])) t → Steps p.tables e below (s₁.setTop (entryFrame m #[(.int l1), (.int c1), (.int l2), (.int c2), (.int f)] maxLocals)) t := fun t kt => by
    refine S21 t ?_
    show Steps p.tables e below (T19.setTop (mkF m 37 #[.val (.int l1), .val (.int c1), .val (.int l2), .val (.int c2), .val (.int f), .val (.int ll2), .val (.int cc2), .unset, .unset, .unset, .unset, .unset] [(.ref b11)])) t
    refine XS.astore X19.here hx rfl (hb hby at_37) rfl rfl (l' := #[.val (.int l1), .val (.int c1), .val (.int l2), .val (.int c2), .val (.int f), .val (.int ll2), .val (.int cc2), .val (.ref b11), .unset, .unset, .unset, .unset]) rfl ?_
    exact kt
  obtain ⟨T25, h25, X25, e25, E25, A25, D25, -, st25⟩ := newO X19 hx hZ hown (hw _ (List.mem_of_getElem? (i := 0) rfl)) (hw _ (List.mem_of_getElem? (i := 1) rfl)) (hw _ (List.mem_of_getElem? (i := 2) rfl)) rfl (g := (mkF m 39 #[.val (.int l1), .val (.int c1), .val (.int l2), .val (.int c2), .val (.int f), .val (.int ll2), .val (.int cc2), .val (.ref b11), .unset, .unset, .unset, .unset] [])) rfl (hb hby at_39) (by decide) (by decide)
  obtain ⟨b25, g25⟩ : ∃ z, z = T19.heap.size := ⟨_, rfl⟩
  rw [← g25] at A25 D25 st25
  have S26 : ∀ t, Steps p.tables e below (T25.setTop (mkF m 42 #[.val (.int l1), .val (.int c1), .val (.int l2), .val (.int c2), .val (.int f), .val (.int ll2), .val (.int cc2), .val (.ref b11), .unset, .unset, .unset, .unset] [(.ref b25)])) t → Steps p.tables e below (s₁.setTop (entryFrame m #[(.int l1), (.int c1), (.int l2), (.int c2), (.int f)] maxLocals)) t := fun t kt => S24 t (st25 _ kt)
  have g_b25 : n0 ≤ b25 := Nat.le_trans (Nat.le_trans Z0 K23.1) (Nat.le_of_eq g25.symm)
  have sz_b25 : h0.size ≤ b25 := Nat.le_trans K23.1 (Nat.le_of_eq g25.symm)
  have ne_b11_b25 : b11 ≠ b25 := Nat.ne_of_lt (Nat.lt_of_lt_of_le F22.lt (Nat.le_of_eq g25.symm))
  have F27 := F22.ext E25
  have F28 := Fc16_line.ext E25
  have F29 := Fc16_column.ext E25
  have K30 : Keep h0 h25 [] := K23.ext E25
  have F31 : Fld Z h25 b25 "com/example/splode/splode/document/Position" "line" "I" (.int (0 : Int32)) := D25 (Or.inr (hw _ (List.mem_of_getElem? (i := 15) rfl))) (ty := .int) (by decide)
  have F32 : Fld Z h25 b25 "com/example/splode/splode/document/Position" "column" "I" (.int (0 : Int32)) := D25 (Or.inr (hw _ (List.mem_of_getElem? (i := 17) rfl))) (ty := .int) (by decide)
  have S35 : ∀ t, Steps p.tables e below (T25.setTop (mkF m 47 #[.val (.int l1), .val (.int c1), .val (.int l2), .val (.int c2), .val (.int f), .val (.int ll2), .val (.int cc2), .val (.ref b11), .unset, .unset, .unset, .unset] [(.int cc2), (.int ll2), (.ref b25), (.ref b25)])) t → Steps p.tables e below (s₁.setTop (entryFrame m #[(.int l1), (.int c1), (.int l2), (.int c2), (.int f)] maxLocals)) t := fun t kt => by
    refine S26 t ?_
    show Steps p.tables e below (T25.setTop (mkF m 42 #[.val (.int l1), .val (.int c1), .val (.int l2), .val (.int c2), .val (.int f), .val (.int ll2), .val (.int cc2), .val (.ref b11), .unset, .unset, .unset, .unset] [(.ref b25)])) t
    refine XS.dup X25.here hx rfl (hb hby at_42) rfl rfl ?_
    show Steps p.tables e below (T25.setTop (mkF m 43 #[.val (.int l1), .val (.int c1), .val (.int l2), .val (.int c2), .val (.int f), .val (.int ll2), .val (.int cc2), .val (.ref b11), .unset, .unset, .unset, .unset] [(.ref b25), (.ref b25)])) t
    refine XS.iload X25.here hx rfl (hb hby at_43) rfl ?_
    show Steps p.tables e below (T25.setTop (mkF m 45 #[.val (.int l1), .val (.int c1), .val (.int l2), .val (.int c2), .val (.int f), .val (.int ll2), .val (.int cc2), .val (.ref b11), .unset, .unset, .unset, .unset] [(.int ll2), (.ref b25), (.ref b25)])) t
    refine XS.iload X25.here hx rfl (hb hby at_45) rfl ?_
    exact kt
  obtain ⟨_, _, ⟨T36, L36, k36, n36⟩, -, X36, ⟨Lc36, hQ36, l36, y36, z36⟩, st36⟩ := X25.specialBack hx (y := (⟨"com/example/splode/splode/document/Position", "<init>", "(II)V"⟩ : MethodName)) rfl hown (mvT hZ (hw _ (List.mem_of_getElem? (i := 3) rfl))) (mvT hZ (hw _ (List.mem_of_getElem? (i := 4) rfl))) (mvT hZ (hw _ (List.mem_of_getElem? (i := 5) rfl))) (by decide) (backOf (W := 1) (own_rm1 l Z a0 hw [] (b25) (ll2) (cc2) ((.int (0 : Int32))) ((.int (0 : Int32))) h25 n0 (Nat.le_trans Z0 K30.1) A25 g_b25 F31 F32) hZ (hw _ (List.mem_of_getElem? (i := 5) rfl)) (hw _ (List.mem_of_getElem? (i := 2) rfl)) (by decide) (by decide)) (g := (mkF m 47 #[.val (.int l1), .val (.int c1), .val (.int l2), .val (.int c2), .val (.int f), .val (.int ll2), .val (.int cc2), .val (.ref b11), .unset, .unset, .unset, .unset] [(.int cc2), (.int ll2), (.ref b25), (.ref b25)])) rfl (by rw [hml]; rfl) (Steps.refl _) (a := b25) (argsL := [(.int ll2), (.int cc2)]) (rest := [(.ref b25)]) (lenOf own_pd2 rfl) rfl (by show 2 * 0 + _ ≤ _; exact Nat.le_of_eq rfl) (hb hby at_47) (fun _ _ => ⟨rfl, e25, (by decide : 2 + 0 ≤ _), (by decide : 4 + 0 ≤ _)⟩)
  dsimp only [Pt.U, Pt.locs, Pt.cells, Pt.slots] at X36 l36 y36 z36 st36 hQ36
  subst l36 y36 z36
  obtain ⟨rfl, Nq36, Kc33, Ec33, Fc33_line, Fc33_column⟩ := hQ36
  have N37 := Fr.app N20 Nq36
  have S38 : ∀ t, Steps p.tables e below (T36.setTop (mkF m 50 #[.val (.int l1), .val (.int c1), .val (.int l2), .val (.int c2), .val (.int f), .val (.int ll2), .val (.int cc2), .val (.ref b11), .unset, .unset, .unset, .unset] [(.ref b25)])) t → Steps p.tables e below (s₁.setTop (entryFrame m #[(.int l1), (.int c1), (.int l2), (.int c2), (.int f)] maxLocals)) t := fun t kt => S35 t (st36.trans kt)
  have F39 := F27.keep Kc33
  have F40 := F28.keep Kc33 (ninS ne_b11_b25 nin0)
  have F41 := F29.keep Kc33 (ninS ne_b11_b25 nin0)
  have F42 := A25.keep Kc33
  have K43 : Keep h0 T36.heap [] := K30.trans Kc33 (allS (Or.inr sz_b25) all0)
  have S44 : ∀ t, Steps p.tables e below (T36.setTop (mkF m 52 #[.val (.int l1), .val (.int c1), .val (.int l2), .val (.int c2), .val (.int f), .val (.int ll2), .val (.int cc2), .val (.ref b11), .val (.ref b25), .unset, .unset, .unset] [])) t → Steps p.tables e below (s₁.setTop (entryFrame m #[(.int l1), (.int c1), (.int l2), (.int c2), (.int f)] maxLocals)) t := fun t kt => by
    refine S38 t ?_
    show Steps p.tables e below (T36.setTop (mkF m 50 #[.val (.int l1), .val (.int c1), .val (.int l2), .val (.int c2), .val (.int f), .val (.int ll2), .val (.int cc2), .val (.ref b11), .unset, .unset, .unset, .unset] [(.ref b25)])) t
    refine XS.astore X36.here hx rfl (hb hby at_50) rfl rfl (l' := #[.val (.int l1), .val (.int c1), .val (.int l2), .val (.int c2), .val (.int f), .val (.int ll2), .val (.int cc2), .val (.ref b11), .val (.ref b25), .unset, .unset, .unset]) rfl ?_
    exact kt
  obtain ⟨T45, ex, X45, e45, hr52, S45⟩ : ∃ (T' : State) (ex : Int32), own_like X36 T' ∧ T'.heap = T36.heap ∧ (ex = own_ex l1 ll2 c1 cc2) ∧ (∀ t, Steps p.tables e below (T'.setTop (mkF m 103 #[.val (.int l1), .val (.int c1), .val (.int l2), .val (.int c2), .val (.int f), .val (.int ll2), .val (.int cc2), .val (.ref b11), .val (.ref b25), .val (.int ex), .unset, .unset] [])) t → Steps p.tables e below (s₁.setTop (entryFrame m #[(.int l1), (.int c1), (.int l2), (.int c2), (.int f)] maxLocals)) t) := by
    have S46 : ∀ t, Steps p.tables e below (T36.setTop (mkF m 55 #[.val (.int l1), .val (.int c1), .val (.int l2), .val (.int c2), .val (.int f), .val (.int ll2), .val (.int cc2), .val (.ref b11), .val (.ref b25), .unset, .unset, .unset] [(.int ll2), (.int l1)])) t → Steps p.tables e below (s₁.setTop (entryFrame m #[(.int l1), (.int c1), (.int l2), (.int c2), (.int f)] maxLocals)) t := fun t kt => by
      refine S44 t ?_
      show Steps p.tables e below (T36.setTop (mkF m 52 #[.val (.int l1), .val (.int c1), .val (.int l2), .val (.int c2), .val (.int f), .val (.int ll2), .val (.int cc2), .val (.ref b11), .val (.ref b25), .unset, .unset, .unset] [])) t
      refine XS.iloadN X36.here hx rfl (hb hby at_52) rfl ?_
      show Steps p.tables e below (T36.setTop (mkF m 53 #[.val (.int l1), .val (.int c1), .val (.int l2), .val (.int c2), .val (.int f), .val (.int ll2), .val (.int cc2), .val (.ref b11), .val (.ref b25), .unset, .unset, .unset] [(.int l1)])) t
      refine XS.iload X36.here hx rfl (hb hby at_53) rfl ?_
      exact kt
    by_cases hc55 : l1 < ll2
    · skip
      have S47 : ∀ t, Steps p.tables e below (T36.setTop (mkF m 103 #[.val (.int l1), .val (.int c1), .val (.int l2), .val (.int c2), .val (.int f), .val (.int ll2), .val (.int cc2), .val (.ref b11), .val (.ref b25), .val (.int (-1 : Int32)), .unset, .unset] [])) t → Steps p.tables e below (s₁.setTop (entryFrame m #[(.int l1), (.int c1), (.int l2), (.int c2), (.int f)] maxLocals)) t := fun t kt => by
        refine S46 t ?_
        show Steps p.tables e below (T36.setTop (mkF m 55 #[.val (.int l1), .val (.int c1), .val (.int l2), .val (.int c2), .val (.int f), .val (.int ll2), .val (.int cc2), .val (.ref b11), .val (.ref b25), .unset, .unset, .unset] [(.int ll2), (.int l1)])) t
        refine XS.icmpNo X36.here hx rfl (hb hby at_55) rfl (tlt hc55).2.1 ?_
        show Steps p.tables e below (T36.setTop (mkF m 58 #[.val (.int l1), .val (.int c1), .val (.int l2), .val (.int c2), .val (.int f), .val (.int ll2), .val (.int cc2), .val (.ref b11), .val (.ref b25), .unset, .unset, .unset] [])) t
        refine XS.iconst X36.here hx rfl (hb hby at_58) ?_
        show Steps p.tables e below (T36.setTop (mkF m 59 #[.val (.int l1), .val (.int c1), .val (.int l2), .val (.int c2), .val (.int f), .val (.int ll2), .val (.int cc2), .val (.ref b11), .val (.ref b25), .unset, .unset, .unset] [(.int (-1 : Int32))])) t
        refine XS.istore X36.here hx rfl (hb hby at_59) rfl (l' := #[.val (.int l1), .val (.int c1), .val (.int l2), .val (.int c2), .val (.int f), .val (.int ll2), .val (.int cc2), .val (.ref b11), .val (.ref b25), .val (.int (-1 : Int32)), .unset, .unset]) rfl ?_
        show Steps p.tables e below (T36.setTop (mkF m 61 #[.val (.int l1), .val (.int c1), .val (.int l2), .val (.int c2), .val (.int f), .val (.int ll2), .val (.int cc2), .val (.ref b11), .val (.ref b25), .val (.int (-1 : Int32)), .unset, .unset] [])) t
        refine XS.goto X36.here hx rfl (pc0 := 61) (pc' := 103) rfl (hb hby at_61) (by decide) (by decide) ?_
        exact kt
      exact ⟨T36, ((-1 : Int32)), X36, rfl, (by simp [own_ex, *]), S47⟩
    · skip
      have S48 : ∀ t, Steps p.tables e below (T36.setTop (mkF m 67 #[.val (.int l1), .val (.int c1), .val (.int l2), .val (.int c2), .val (.int f), .val (.int ll2), .val (.int cc2), .val (.ref b11), .val (.ref b25), .unset, .unset, .unset] [(.int ll2), (.int l1)])) t → Steps p.tables e below (s₁.setTop (entryFrame m #[(.int l1), (.int c1), (.int l2), (.int c2), (.int f)] maxLocals)) t := fun t kt => by
        refine S46 t ?_
        show Steps p.tables e below (T36.setTop (mkF m 55 #[.val (.int l1), .val (.int c1), .val (.int l2), .val (.int c2), .val (.int f), .val (.int ll2), .val (.int cc2), .val (.ref b11), .val (.ref b25), .unset, .unset, .unset] [(.int ll2), (.int l1)])) t
        refine XS.icmpYes X36.here hx rfl (pc0 := 55) (pc' := 64) rfl (hb hby at_55) rfl (flt hc55).2.1 (by decide) (by decide) ?_
        show Steps p.tables e below (T36.setTop (mkF m 64 #[.val (.int l1), .val (.int c1), .val (.int l2), .val (.int c2), .val (.int f), .val (.int ll2), .val (.int cc2), .val (.ref b11), .val (.ref b25), .unset, .unset, .unset] [])) t
        refine XS.iloadN X36.here hx rfl (hb hby at_64) rfl ?_
        show Steps p.tables e below (T36.setTop (mkF m 65 #[.val (.int l1), .val (.int c1), .val (.int l2), .val (.int c2), .val (.int f), .val (.int ll2), .val (.int cc2), .val (.ref b11), .val (.ref b25), .unset, .unset, .unset] [(.int l1)])) t
        refine XS.iload X36.here hx rfl (hb hby at_65) rfl ?_
        exact kt
      by_cases hc67 : ll2 < l1
      · skip
        have S49 : ∀ t, Steps p.tables e below (T36.setTop (mkF m 103 #[.val (.int l1), .val (.int c1), .val (.int l2), .val (.int c2), .val (.int f), .val (.int ll2), .val (.int cc2), .val (.ref b11), .val (.ref b25), .val (.int (1 : Int32)), .unset, .unset] [])) t → Steps p.tables e below (s₁.setTop (entryFrame m #[(.int l1), (.int c1), (.int l2), (.int c2), (.int f)] maxLocals)) t := fun t kt => by
          refine S48 t ?_
          show Steps p.tables e below (T36.setTop (mkF m 67 #[.val (.int l1), .val (.int c1), .val (.int l2), .val (.int c2), .val (.int f), .val (.int ll2), .val (.int cc2), .val (.ref b11), .val (.ref b25), .unset, .unset, .unset] [(.int ll2), (.int l1)])) t
          refine XS.icmpNo X36.here hx rfl (hb hby at_67) rfl (tlt hc67).2.2.2 ?_
          show Steps p.tables e below (T36.setTop (mkF m 70 #[.val (.int l1), .val (.int c1), .val (.int l2), .val (.int c2), .val (.int f), .val (.int ll2), .val (.int cc2), .val (.ref b11), .val (.ref b25), .unset, .unset, .unset] [])) t
          refine XS.iconst X36.here hx rfl (hb hby at_70) ?_
          show Steps p.tables e below (T36.setTop (mkF m 71 #[.val (.int l1), .val (.int c1), .val (.int l2), .val (.int c2), .val (.int f), .val (.int ll2), .val (.int cc2), .val (.ref b11), .val (.ref b25), .unset, .unset, .unset] [(.int (1 : Int32))])) t
          refine XS.istore X36.here hx rfl (hb hby at_71) rfl (l' := #[.val (.int l1), .val (.int c1), .val (.int l2), .val (.int c2), .val (.int f), .val (.int ll2), .val (.int cc2), .val (.ref b11), .val (.ref b25), .val (.int (1 : Int32)), .unset, .unset]) rfl ?_
          show Steps p.tables e below (T36.setTop (mkF m 73 #[.val (.int l1), .val (.int c1), .val (.int l2), .val (.int c2), .val (.int f), .val (.int ll2), .val (.int cc2), .val (.ref b11), .val (.ref b25), .val (.int (1 : Int32)), .unset, .unset] [])) t
          refine XS.goto X36.here hx rfl (pc0 := 73) (pc' := 103) rfl (hb hby at_73) (by decide) (by decide) ?_
          exact kt
        exact ⟨T36, ((1 : Int32)), X36, rfl, (by simp [own_ex, *]), S49⟩
      · skip
        have S50 : ∀ t, Steps p.tables e below (T36.setTop (mkF m 79 #[.val (.int l1), .val (.int c1), .val (.int l2), .val (.int c2), .val (.int f), .val (.int ll2), .val (.int cc2), .val (.ref b11), .val (.ref b25), .unset, .unset, .unset] [(.int cc2), (.int c1)])) t → Steps p.tables e below (s₁.setTop (entryFrame m #[(.int l1), (.int c1), (.int l2), (.int c2), (.int f)] maxLocals)) t := fun t kt => by
          refine S48 t ?_
          show Steps p.tables e below (T36.setTop (mkF m 67 #[.val (.int l1), .val (.int c1), .val (.int l2), .val (.int c2), .val (.int f), .val (.int ll2), .val (.int cc2), .val (.ref b11), .val (.ref b25), .unset, .unset, .unset] [(.int ll2), (.int l1)])) t
          refine XS.icmpYes X36.here hx rfl (pc0 := 67) (pc' := 76) rfl (hb hby at_67) rfl (flt hc67).2.2.2 (by decide) (by decide) ?_
          show Steps p.tables e below (T36.setTop (mkF m 76 #[.val (.int l1), .val (.int c1), .val (.int l2), .val (.int c2), .val (.int f), .val (.int ll2), .val (.int cc2), .val (.ref b11), .val (.ref b25), .unset, .unset, .unset] [])) t
          refine XS.iloadN X36.here hx rfl (hb hby at_76) rfl ?_
          show Steps p.tables e below (T36.setTop (mkF m 77 #[.val (.int l1), .val (.int c1), .val (.int l2), .val (.int c2), .val (.int f), .val (.int ll2), .val (.int cc2), .val (.ref b11), .val (.ref b25), .unset, .unset, .unset] [(.int c1)])) t
          refine XS.iload X36.here hx rfl (hb hby at_77) rfl ?_
          exact kt
        by_cases hc79 : c1 < cc2
        · skip
          have S51 : ∀ t, Steps p.tables e below (T36.setTop (mkF m 103 #[.val (.int l1), .val (.int c1), .val (.int l2), .val (.int c2), .val (.int f), .val (.int ll2), .val (.int cc2), .val (.ref b11), .val (.ref b25), .val (.int (-1 : Int32)), .unset, .unset] [])) t → Steps p.tables e below (s₁.setTop (entryFrame m #[(.int l1), (.int c1), (.int l2), (.int c2), (.int f)] maxLocals)) t := fun t kt => by
            refine S50 t ?_
            show Steps p.tables e below (T36.setTop (mkF m 79 #[.val (.int l1), .val (.int c1), .val (.int l2), .val (.int c2), .val (.int f), .val (.int ll2), .val (.int cc2), .val (.ref b11), .val (.ref b25), .unset, .unset, .unset] [(.int cc2), (.int c1)])) t
            refine XS.icmpNo X36.here hx rfl (hb hby at_79) rfl (tlt hc79).2.1 ?_
            show Steps p.tables e below (T36.setTop (mkF m 82 #[.val (.int l1), .val (.int c1), .val (.int l2), .val (.int c2), .val (.int f), .val (.int ll2), .val (.int cc2), .val (.ref b11), .val (.ref b25), .unset, .unset, .unset] [])) t
            refine XS.iconst X36.here hx rfl (hb hby at_82) ?_
            show Steps p.tables e below (T36.setTop (mkF m 83 #[.val (.int l1), .val (.int c1), .val (.int l2), .val (.int c2), .val (.int f), .val (.int ll2), .val (.int cc2), .val (.ref b11), .val (.ref b25), .unset, .unset, .unset] [(.int (-1 : Int32))])) t
            refine XS.istore X36.here hx rfl (hb hby at_83) rfl (l' := #[.val (.int l1), .val (.int c1), .val (.int l2), .val (.int c2), .val (.int f), .val (.int ll2), .val (.int cc2), .val (.ref b11), .val (.ref b25), .val (.int (-1 : Int32)), .unset, .unset]) rfl ?_
            show Steps p.tables e below (T36.setTop (mkF m 85 #[.val (.int l1), .val (.int c1), .val (.int l2), .val (.int c2), .val (.int f), .val (.int ll2), .val (.int cc2), .val (.ref b11), .val (.ref b25), .val (.int (-1 : Int32)), .unset, .unset] [])) t
            refine XS.goto X36.here hx rfl (pc0 := 85) (pc' := 103) rfl (hb hby at_85) (by decide) (by decide) ?_
            exact kt
          exact ⟨T36, ((-1 : Int32)), X36, rfl, (by simp [own_ex, *]), S51⟩
        · skip
          have S52 : ∀ t, Steps p.tables e below (T36.setTop (mkF m 91 #[.val (.int l1), .val (.int c1), .val (.int l2), .val (.int c2), .val (.int f), .val (.int ll2), .val (.int cc2), .val (.ref b11), .val (.ref b25), .unset, .unset, .unset] [(.int cc2), (.int c1)])) t → Steps p.tables e below (s₁.setTop (entryFrame m #[(.int l1), (.int c1), (.int l2), (.int c2), (.int f)] maxLocals)) t := fun t kt => by
            refine S50 t ?_
            show Steps p.tables e below (T36.setTop (mkF m 79 #[.val (.int l1), .val (.int c1), .val (.int l2), .val (.int c2), .val (.int f), .val (.int ll2), .val (.int cc2), .val (.ref b11), .val (.ref b25), .unset, .unset, .unset] [(.int cc2), (.int c1)])) t
            refine XS.icmpYes X36.here hx rfl (pc0 := 79) (pc' := 88) rfl (hb hby at_79) rfl (flt hc79).2.1 (by decide) (by decide) ?_
            show Steps p.tables e below (T36.setTop (mkF m 88 #[.val (.int l1), .val (.int c1), .val (.int l2), .val (.int c2), .val (.int f), .val (.int ll2), .val (.int cc2), .val (.ref b11), .val (.ref b25), .unset, .unset, .unset] [])) t
            refine XS.iloadN X36.here hx rfl (hb hby at_88) rfl ?_
            show Steps p.tables e below (T36.setTop (mkF m 89 #[.val (.int l1), .val (.int c1), .val (.int l2), .val (.int c2), .val (.int f), .val (.int ll2), .val (.int cc2), .val (.ref b11), .val (.ref b25), .unset, .unset, .unset] [(.int c1)])) t
            refine XS.iload X36.here hx rfl (hb hby at_89) rfl ?_
            exact kt
          by_cases hc91 : cc2 < c1
          · skip
            have S53 : ∀ t, Steps p.tables e below (T36.setTop (mkF m 103 #[.val (.int l1), .val (.int c1), .val (.int l2), .val (.int c2), .val (.int f), .val (.int ll2), .val (.int cc2), .val (.ref b11), .val (.ref b25), .val (.int (1 : Int32)), .unset, .unset] [])) t → Steps p.tables e below (s₁.setTop (entryFrame m #[(.int l1), (.int c1), (.int l2), (.int c2), (.int f)] maxLocals)) t := fun t kt => by
              refine S52 t ?_
              show Steps p.tables e below (T36.setTop (mkF m 91 #[.val (.int l1), .val (.int c1), .val (.int l2), .val (.int c2), .val (.int f), .val (.int ll2), .val (.int cc2), .val (.ref b11), .val (.ref b25), .unset, .unset, .unset] [(.int cc2), (.int c1)])) t
              refine XS.icmpNo X36.here hx rfl (hb hby at_91) rfl (tlt hc91).2.2.2 ?_
              show Steps p.tables e below (T36.setTop (mkF m 94 #[.val (.int l1), .val (.int c1), .val (.int l2), .val (.int c2), .val (.int f), .val (.int ll2), .val (.int cc2), .val (.ref b11), .val (.ref b25), .unset, .unset, .unset] [])) t
              refine XS.iconst X36.here hx rfl (hb hby at_94) ?_
              show Steps p.tables e below (T36.setTop (mkF m 95 #[.val (.int l1), .val (.int c1), .val (.int l2), .val (.int c2), .val (.int f), .val (.int ll2), .val (.int cc2), .val (.ref b11), .val (.ref b25), .unset, .unset, .unset] [(.int (1 : Int32))])) t
              refine XS.istore X36.here hx rfl (hb hby at_95) rfl (l' := #[.val (.int l1), .val (.int c1), .val (.int l2), .val (.int c2), .val (.int f), .val (.int ll2), .val (.int cc2), .val (.ref b11), .val (.ref b25), .val (.int (1 : Int32)), .unset, .unset]) rfl ?_
              show Steps p.tables e below (T36.setTop (mkF m 97 #[.val (.int l1), .val (.int c1), .val (.int l2), .val (.int c2), .val (.int f), .val (.int ll2), .val (.int cc2), .val (.ref b11), .val (.ref b25), .val (.int (1 : Int32)), .unset, .unset] [])) t
              refine XS.goto X36.here hx rfl (pc0 := 97) (pc' := 103) rfl (hb hby at_97) (by decide) (by decide) ?_
              exact kt
            exact ⟨T36, ((1 : Int32)), X36, rfl, (by simp [own_ex, *]), S53⟩
          · skip
            have S54 : ∀ t, Steps p.tables e below (T36.setTop (mkF m 103 #[.val (.int l1), .val (.int c1), .val (.int l2), .val (.int c2), .val (.int f), .val (.int ll2), .val (.int cc2), .val (.ref b11), .val (.ref b25), .val (.int (0 : Int32)), .unset, .unset] [])) t → Steps p.tables e below (s₁.setTop (entryFrame m #[(.int l1), (.int c1), (.int l2), (.int c2), (.int f)] maxLocals)) t := fun t kt => by
              refine S52 t ?_
              show Steps p.tables e below (T36.setTop (mkF m 91 #[.val (.int l1), .val (.int c1), .val (.int l2), .val (.int c2), .val (.int f), .val (.int ll2), .val (.int cc2), .val (.ref b11), .val (.ref b25), .unset, .unset, .unset] [(.int cc2), (.int c1)])) t
              refine XS.icmpYes X36.here hx rfl (pc0 := 91) (pc' := 100) rfl (hb hby at_91) rfl (flt hc91).2.2.2 (by decide) (by decide) ?_
              show Steps p.tables e below (T36.setTop (mkF m 100 #[.val (.int l1), .val (.int c1), .val (.int l2), .val (.int c2), .val (.int f), .val (.int ll2), .val (.int cc2), .val (.ref b11), .val (.ref b25), .unset, .unset, .unset] [])) t
              refine XS.iconst X36.here hx rfl (hb hby at_100) ?_
              show Steps p.tables e below (T36.setTop (mkF m 101 #[.val (.int l1), .val (.int c1), .val (.int l2), .val (.int c2), .val (.int f), .val (.int ll2), .val (.int cc2), .val (.ref b11), .val (.ref b25), .unset, .unset, .unset] [(.int (0 : Int32))])) t
              refine XS.istore X36.here hx rfl (hb hby at_101) rfl (l' := #[.val (.int l1), .val (.int c1), .val (.int l2), .val (.int c2), .val (.int f), .val (.int ll2), .val (.int cc2), .val (.ref b11), .val (.ref b25), .val (.int (0 : Int32)), .unset, .unset]) rfl ?_
              exact kt
            exact ⟨T36, ((0 : Int32)), X36, rfl, (by simp [own_ex, *]), S54⟩
  have S56 : ∀ t, Steps p.tables e below (T45.setTop (mkF m 107 #[.val (.int l1), .val (.int c1), .val (.int l2), .val (.int c2), .val (.int f), .val (.int ll2), .val (.int cc2), .val (.ref b11), .val (.ref b25), .val (.int ex), .unset, .unset] [(.ref b25), (.ref b11)])) t → Steps p.tables e below (s₁.setTop (entryFrame m #[(.int l1), (.int c1), (.int l2), (.int c2), (.int f)] maxLocals)) t := fun t kt => by
    refine S45 t ?_
    show Steps p.tables e below (T45.setTop (mkF m 103 #[.val (.int l1), .val (.int c1), .val (.int l2), .val (.int c2), .val (.int f), .val (.int ll2), .val (.int cc2), .val (.ref b11), .val (.ref b25), .val (.int ex), .unset, .unset] [])) t
    refine XS.aload X45.here hx rfl (hb hby at_103) rfl rfl ?_
    show Steps p.tables e below (T45.setTop (mkF m 105 #[.val (.int l1), .val (.int c1), .val (.int l2), .val (.int c2), .val (.int f), .val (.int ll2), .val (.int cc2), .val (.ref b11), .val (.ref b25), .val (.int ex), .unset, .unset] [(.ref b11)])) t
    refine XS.aload X45.here hx rfl (hb hby at_105) rfl rfl ?_
    exact kt
  obtain ⟨cq57, kq57, q57a, q57b, q57c⟩ := isOf hZ e45 F39
  obtain ⟨_, _, ⟨T57, L57, k57, n57⟩, -, X57, ⟨Lc57, hQ57, l57, y57, z57⟩, st57⟩ := X45.virtualBack hx (y := (⟨"com/example/splode/splode/document/Position", "compareTo", "(Lcom/example/splode/splode/document/Position;)I"⟩ : MethodName)) (z := (⟨"com/example/splode/splode/document/Position", "compareTo", "(Lcom/example/splode/splode/document/Position;)I"⟩ : MethodName)) hown (mvT hZ (hw _ (List.mem_of_getElem? (i := 18) rfl))) (mvT hZ (hw _ (List.mem_of_getElem? (i := 19) rfl))) (notFace_of_selects (args := #[]) (mvT hZ (hw _ (List.mem_of_getElem? (i := 21) rfl)))) (mvT hZ (hw _ (List.mem_of_getElem? (i := 21) rfl))) (mvT hZ (hw _ (List.mem_of_getElem? (i := 20) rfl))) (by decide) (backOf (W := 0) (own_rm4 l Z a0 hw [] (b11) (b25) (l1) (c1) (ll2) (cc2) T36.heap n0 (Nat.le_trans Z0 K43.1) F40 F41 Fc33_line Fc33_column) hZ (hw _ (List.mem_of_getElem? (i := 22) rfl)) (hw _ (List.mem_of_getElem? (i := 2) rfl)) (by decide) (by decide)) q57a q57c (g := (mkF m 107 #[.val (.int l1), .val (.int c1), .val (.int l2), .val (.int c2), .val (.int f), .val (.int ll2), .val (.int cc2), .val (.ref b11), .val (.ref b25), .val (.int ex), .unset, .unset] [(.ref b25), (.ref b11)])) rfl (by rw [hml]; rfl) (Steps.refl _) (argsL := [(.ref b25)]) (rest := []) (lenOf own_pd3 rfl) rfl (by show 2 * 0 + _ ≤ _; exact Nat.le_of_eq rfl) (hb hby at_107) (fun _ _ => ⟨rfl, e45, (by decide : 2 + 0 ≤ _), (by decide : 4 + 0 ≤ _)⟩)
  dsimp only [Pt.U, Pt.locs, Pt.cells, Pt.slots] at X57 l57 y57 z57 st57 hQ57
  subst l57 y57 z57
  obtain ⟨rfl, rfl, eq55⟩ := hQ57
  try rw [List.append_nil] at X57
  have S58 : ∀ t, Steps p.tables e below (T57.setTop (mkF m 110 #[.val (.int l1), .val (.int c1), .val (.int l2), .val (.int c2), .val (.int f), .val (.int ll2), .val (.int cc2), .val (.ref b11), .val (.ref b25), .val (.int ex), .unset, .unset] [(.int (own_cmpP l1 c1 ll2 cc2))])) t → Steps p.tables e below (s₁.setTop (entryFrame m #[(.int l1), (.int c1), (.int l2), (.int c2), (.int f)] maxLocals)) t := fun t kt => S56 t (st57.trans kt)
  obtain ⟨_, _, ⟨T60, L60, k60, n60⟩, -, X60, ⟨Lc60, hQ60, l60, y60, z60⟩, st60⟩ := Jvm.LawKit.callS X57 hx (y := (⟨"com/example/splode/splode/document/PositionCompareToPinLaw", "sign", "(I)I"⟩ : MethodName)) hown (mvT hZ (hw _ (List.mem_of_getElem? (i := 27) rfl))) (mvT hZ (hw _ (List.mem_of_getElem? (i := 28) rfl))) (mvT hZ (hw _ (List.mem_of_getElem? (i := 29) rfl))) (mvT hZ (hw _ (List.mem_of_getElem? (i := 30) rfl))) (by decide) (backOf (W := 0) (own_rm6 l Z a0 hw [] ((own_cmpP l1 c1 ll2 cc2)) T36.heap n0 (Nat.le_trans Z0 K43.1)) hZ (hw _ (List.mem_of_getElem? (i := 30) rfl)) (hw _ (List.mem_of_getElem? (i := 29) rfl)) (by decide) (by decide)) (g := (mkF m 110 #[.val (.int l1), .val (.int c1), .val (.int l2), .val (.int c2), .val (.int f), .val (.int ll2), .val (.int cc2), .val (.ref b11), .val (.ref b25), .val (.int ex), .unset, .unset] [(.int (own_cmpP l1 c1 ll2 cc2))])) rfl (by rw [hml]; rfl) (argsL := [(.int (own_cmpP l1 c1 ll2 cc2))]) (rest := []) (lenOf own_pd4 rfl) rfl (by show 2 * 0 + _ ≤ _; exact Nat.le_of_eq rfl) (hb hby at_110) (fun _ _ => ⟨rfl, eq55, (by decide : 2 + 0 ≤ _), (by decide : 4 + 0 ≤ _)⟩)
  dsimp only [Pt.U, Pt.locs, Pt.cells, Pt.slots] at X60 l60 y60 z60 st60 hQ60
  subst l60 y60 z60
  obtain ⟨rfl, rfl, eq59⟩ := hQ60
  try rw [List.append_nil] at X60
  have S61 : ∀ t, Steps p.tables e below (T60.setTop (mkF m 113 #[.val (.int l1), .val (.int c1), .val (.int l2), .val (.int c2), .val (.int f), .val (.int ll2), .val (.int cc2), .val (.ref b11), .val (.ref b25), .val (.int ex), .unset, .unset] [(.int (own_sg (own_cmpP l1 c1 ll2 cc2)))])) t → Steps p.tables e below (s₁.setTop (entryFrame m #[(.int l1), (.int c1), (.int l2), (.int c2), (.int f)] maxLocals)) t := fun t kt => S58 t (st60 _ kt)
  have S63 : ∀ t, Steps p.tables e below (T60.setTop (mkF m 119 #[.val (.int l1), .val (.int c1), .val (.int l2), .val (.int c2), .val (.int f), .val (.int ll2), .val (.int cc2), .val (.ref b11), .val (.ref b25), .val (.int ex), .val (.int (own_sg (own_cmpP l1 c1 ll2 cc2))), .unset] [(.ref b11), (.ref b25)])) t → Steps p.tables e below (s₁.setTop (entryFrame m #[(.int l1), (.int c1), (.int l2), (.int c2), (.int f)] maxLocals)) t := fun t kt => by
    refine S61 t ?_
    show Steps p.tables e below (T60.setTop (mkF m 113 #[.val (.int l1), .val (.int c1), .val (.int l2), .val (.int c2), .val (.int f), .val (.int ll2), .val (.int cc2), .val (.ref b11), .val (.ref b25), .val (.int ex), .unset, .unset] [(.int (own_sg (own_cmpP l1 c1 ll2 cc2)))])) t
    refine XS.istore X60.here hx rfl (hb hby at_113) rfl (l' := #[.val (.int l1), .val (.int c1), .val (.int l2), .val (.int c2), .val (.int f), .val (.int ll2), .val (.int cc2), .val (.ref b11), .val (.ref b25), .val (.int ex), .val (.int (own_sg (own_cmpP l1 c1 ll2 cc2))), .unset]) rfl ?_
    show Steps p.tables e below (T60.setTop (mkF m 115 #[.val (.int l1), .val (.int c1), .val (.int l2), .val (.int c2), .val (.int f), .val (.int ll2), .val (.int cc2), .val (.ref b11), .val (.ref b25), .val (.int ex), .val (.int (own_sg (own_cmpP l1 c1 ll2 cc2))), .unset] [])) t
    refine XS.aload X60.here hx rfl (hb hby at_115) rfl rfl ?_
    show Steps p.tables e below (T60.setTop (mkF m 117 #[.val (.int l1), .val (.int c1), .val (.int l2), .val (.int c2), .val (.int f), .val (.int ll2), .val (.int cc2), .val (.ref b11), .val (.ref b25), .val (.int ex), .val (.int (own_sg (own_cmpP l1 c1 ll2 cc2))), .unset] [(.ref b25)])) t
    refine XS.aload X60.here hx rfl (hb hby at_117) rfl rfl ?_
    exact kt
  obtain ⟨cq64, kq64, q64a, q64b, q64c⟩ := isOf hZ eq59 F42
  obtain ⟨_, _, ⟨T64, L64, k64, n64⟩, -, X64, ⟨Lc64, hQ64, l64, y64, z64⟩, st64⟩ := X60.virtualBack hx (y := (⟨"com/example/splode/splode/document/Position", "compareTo", "(Lcom/example/splode/splode/document/Position;)I"⟩ : MethodName)) (z := (⟨"com/example/splode/splode/document/Position", "compareTo", "(Lcom/example/splode/splode/document/Position;)I"⟩ : MethodName)) hown (mvT hZ (hw _ (List.mem_of_getElem? (i := 18) rfl))) (mvT hZ (hw _ (List.mem_of_getElem? (i := 19) rfl))) (notFace_of_selects (args := #[]) (mvT hZ (hw _ (List.mem_of_getElem? (i := 21) rfl)))) (mvT hZ (hw _ (List.mem_of_getElem? (i := 21) rfl))) (mvT hZ (hw _ (List.mem_of_getElem? (i := 20) rfl))) (by decide) (backOf (W := 0) (own_rm4 l Z a0 hw [] (b25) (b11) (ll2) (cc2) (l1) (c1) T36.heap n0 (Nat.le_trans Z0 K43.1) Fc33_line Fc33_column F40 F41) hZ (hw _ (List.mem_of_getElem? (i := 22) rfl)) (hw _ (List.mem_of_getElem? (i := 2) rfl)) (by decide) (by decide)) q64a q64c (g := (mkF m 119 #[.val (.int l1), .val (.int c1), .val (.int l2), .val (.int c2), .val (.int f), .val (.int ll2), .val (.int cc2), .val (.ref b11), .val (.ref b25), .val (.int ex), .val (.int (own_sg (own_cmpP l1 c1 ll2 cc2))), .unset] [(.ref b11), (.ref b25)])) rfl (by rw [hml]; rfl) (Steps.refl _) (argsL := [(.ref b11)]) (rest := []) (lenOf own_pd3 rfl) rfl (by show 2 * 0 + _ ≤ _; exact Nat.le_of_eq rfl) (hb hby at_119) (fun _ _ => ⟨rfl, eq59, (by decide : 2 + 0 ≤ _), (by decide : 4 + 0 ≤ _)⟩)
  dsimp only [Pt.U, Pt.locs, Pt.cells, Pt.slots] at X64 l64 y64 z64 st64 hQ64
  subst l64 y64 z64
  obtain ⟨rfl, rfl, eq62⟩ := hQ64
  try rw [List.append_nil] at X64
  have S65 : ∀ t, Steps p.tables e below (T64.setTop (mkF m 122 #[.val (.int l1), .val (.int c1), .val (.int l2), .val (.int c2), .val (.int f), .val (.int ll2), .val (.int cc2), .val (.ref b11), .val (.ref b25), .val (.int ex), .val (.int (own_sg (own_cmpP l1 c1 ll2 cc2))), .unset] [(.int (own_cmpP ll2 cc2 l1 c1))])) t → Steps p.tables e below (s₁.setTop (entryFrame m #[(.int l1), (.int c1), (.int l2), (.int c2), (.int f)] maxLocals)) t := fun t kt => S63 t (st64.trans kt)
  obtain ⟨_, _, ⟨T67, L67, k67, n67⟩, -, X67, ⟨Lc67, hQ67, l67, y67, z67⟩, st67⟩ := Jvm.LawKit.callS X64 hx (y := (⟨"com/example/splode/splode/document/PositionCompareToPinLaw", "sign", "(I)I"⟩ : MethodName)) hown (mvT hZ (hw _ (List.mem_of_getElem? (i := 27) rfl))) (mvT hZ (hw _ (List.mem_of_getElem? (i := 28) rfl))) (mvT hZ (hw _ (List.mem_of_getElem? (i := 29) rfl))) (mvT hZ (hw _ (List.mem_of_getElem? (i := 30) rfl))) (by decide) (backOf (W := 0) (own_rm6 l Z a0 hw [] ((own_cmpP ll2 cc2 l1 c1)) T36.heap n0 (Nat.le_trans Z0 K43.1)) hZ (hw _ (List.mem_of_getElem? (i := 30) rfl)) (hw _ (List.mem_of_getElem? (i := 29) rfl)) (by decide) (by decide)) (g := (mkF m 122 #[.val (.int l1), .val (.int c1), .val (.int l2), .val (.int c2), .val (.int f), .val (.int ll2), .val (.int cc2), .val (.ref b11), .val (.ref b25), .val (.int ex), .val (.int (own_sg (own_cmpP l1 c1 ll2 cc2))), .unset] [(.int (own_cmpP ll2 cc2 l1 c1))])) rfl (by rw [hml]; rfl) (argsL := [(.int (own_cmpP ll2 cc2 l1 c1))]) (rest := []) (lenOf own_pd4 rfl) rfl (by show 2 * 0 + _ ≤ _; exact Nat.le_of_eq rfl) (hb hby at_122) (fun _ _ => ⟨rfl, eq62, (by decide : 2 + 0 ≤ _), (by decide : 4 + 0 ≤ _)⟩)
  dsimp only [Pt.U, Pt.locs, Pt.cells, Pt.slots] at X67 l67 y67 z67 st67 hQ67
  subst l67 y67 z67
  obtain ⟨rfl, rfl, eq66⟩ := hQ67
  try rw [List.append_nil] at X67
  have S68 : ∀ t, Steps p.tables e below (T67.setTop (mkF m 125 #[.val (.int l1), .val (.int c1), .val (.int l2), .val (.int c2), .val (.int f), .val (.int ll2), .val (.int cc2), .val (.ref b11), .val (.ref b25), .val (.int ex), .val (.int (own_sg (own_cmpP l1 c1 ll2 cc2))), .unset] [(.int (own_sg (own_cmpP ll2 cc2 l1 c1)))])) t → Steps p.tables e below (s₁.setTop (entryFrame m #[(.int l1), (.int c1), (.int l2), (.int c2), (.int f)] maxLocals)) t := fun t kt => S65 t (st67 _ kt)
  have S69 : ∀ t, Steps p.tables e below (T67.setTop (mkF m 131 #[.val (.int l1), .val (.int c1), .val (.int l2), .val (.int c2), .val (.int f), .val (.int ll2), .val (.int cc2), .val (.ref b11), .val (.ref b25), .val (.int ex), .val (.int (own_sg (own_cmpP l1 c1 ll2 cc2))), .val (.int (own_sg (own_cmpP ll2 cc2 l1 c1)))] [(.int ex), (.int (own_sg (own_cmpP l1 c1 ll2 cc2)))])) t → Steps p.tables e below (s₁.setTop (entryFrame m #[(.int l1), (.int c1), (.int l2), (.int c2), (.int f)] maxLocals)) t := fun t kt => by
    refine S68 t ?_
    show Steps p.tables e below (T67.setTop (mkF m 125 #[.val (.int l1), .val (.int c1), .val (.int l2), .val (.int c2), .val (.int f), .val (.int ll2), .val (.int cc2), .val (.ref b11), .val (.ref b25), .val (.int ex), .val (.int (own_sg (own_cmpP l1 c1 ll2 cc2))), .unset] [(.int (own_sg (own_cmpP ll2 cc2 l1 c1)))])) t
    refine XS.istore X67.here hx rfl (hb hby at_125) rfl (l' := #[.val (.int l1), .val (.int c1), .val (.int l2), .val (.int c2), .val (.int f), .val (.int ll2), .val (.int cc2), .val (.ref b11), .val (.ref b25), .val (.int ex), .val (.int (own_sg (own_cmpP l1 c1 ll2 cc2))), .val (.int (own_sg (own_cmpP ll2 cc2 l1 c1)))]) rfl ?_
    show Steps p.tables e below (T67.setTop (mkF m 127 #[.val (.int l1), .val (.int c1), .val (.int l2), .val (.int c2), .val (.int f), .val (.int ll2), .val (.int cc2), .val (.ref b11), .val (.ref b25), .val (.int ex), .val (.int (own_sg (own_cmpP l1 c1 ll2 cc2))), .val (.int (own_sg (own_cmpP ll2 cc2 l1 c1)))] [])) t
    refine XS.iload X67.here hx rfl (hb hby at_127) rfl ?_
    show Steps p.tables e below (T67.setTop (mkF m 129 #[.val (.int l1), .val (.int c1), .val (.int l2), .val (.int c2), .val (.int f), .val (.int ll2), .val (.int cc2), .val (.ref b11), .val (.ref b25), .val (.int ex), .val (.int (own_sg (own_cmpP l1 c1 ll2 cc2))), .val (.int (own_sg (own_cmpP ll2 cc2 l1 c1)))] [(.int (own_sg (own_cmpP l1 c1 ll2 cc2)))])) t
    refine XS.iload X67.here hx rfl (hb hby at_129) rfl ?_
    exact kt
  have hc131_70 : (own_sg (own_cmpP l1 c1 ll2 cc2)) = ex := by rw [hr52]; exact (own_plain l1 ll2 c1 cc2).1
  have S71 : ∀ t, Steps p.tables e below (T67.setTop (mkF m 139 #[.val (.int l1), .val (.int c1), .val (.int l2), .val (.int c2), .val (.int f), .val (.int ll2), .val (.int cc2), .val (.ref b11), .val (.ref b25), .val (.int ex), .val (.int (own_sg (own_cmpP l1 c1 ll2 cc2))), .val (.int (own_sg (own_cmpP ll2 cc2 l1 c1)))] [(.int (-ex)), (.int (own_sg (own_cmpP ll2 cc2 l1 c1)))])) t → Steps p.tables e below (s₁.setTop (entryFrame m #[(.int l1), (.int c1), (.int l2), (.int c2), (.int f)] maxLocals)) t := fun t kt => by
    refine S69 t ?_
    show Steps p.tables e below (T67.setTop (mkF m 131 #[.val (.int l1), .val (.int c1), .val (.int l2), .val (.int c2), .val (.int f), .val (.int ll2), .val (.int cc2), .val (.ref b11), .val (.ref b25), .val (.int ex), .val (.int (own_sg (own_cmpP l1 c1 ll2 cc2))), .val (.int (own_sg (own_cmpP ll2 cc2 l1 c1)))] [(.int ex), (.int (own_sg (own_cmpP l1 c1 ll2 cc2)))])) t
    refine XS.icmpNo X67.here hx rfl (hb hby at_131) rfl (teq hc131_70).2 ?_
    show Steps p.tables e below (T67.setTop (mkF m 134 #[.val (.int l1), .val (.int c1), .val (.int l2), .val (.int c2), .val (.int f), .val (.int ll2), .val (.int cc2), .val (.ref b11), .val (.ref b25), .val (.int ex), .val (.int (own_sg (own_cmpP l1 c1 ll2 cc2))), .val (.int (own_sg (own_cmpP ll2 cc2 l1 c1)))] [])) t
    refine XS.iload X67.here hx rfl (hb hby at_134) rfl ?_
    show Steps p.tables e below (T67.setTop (mkF m 136 #[.val (.int l1), .val (.int c1), .val (.int l2), .val (.int c2), .val (.int f), .val (.int ll2), .val (.int cc2), .val (.ref b11), .val (.ref b25), .val (.int ex), .val (.int (own_sg (own_cmpP l1 c1 ll2 cc2))), .val (.int (own_sg (own_cmpP ll2 cc2 l1 c1)))] [(.int (own_sg (own_cmpP ll2 cc2 l1 c1)))])) t
    refine XS.iload X67.here hx rfl (hb hby at_136) rfl ?_
    show Steps p.tables e below (T67.setTop (mkF m 138 #[.val (.int l1), .val (.int c1), .val (.int l2), .val (.int c2), .val (.int f), .val (.int ll2), .val (.int cc2), .val (.ref b11), .val (.ref b25), .val (.int ex), .val (.int (own_sg (own_cmpP l1 c1 ll2 cc2))), .val (.int (own_sg (own_cmpP ll2 cc2 l1 c1)))] [(.int ex), (.int (own_sg (own_cmpP ll2 cc2 l1 c1)))])) t
    refine XS.ineg X67.here hx rfl (hb hby at_138) rfl ?_
    exact kt
  have hc139_72 : (own_sg (own_cmpP ll2 cc2 l1 c1)) = (-ex) := by rw [hr52]; exact (own_plain l1 ll2 c1 cc2).2
  have S73 : ∀ t, Steps p.tables e below (T67.setTop (mkF m 147 #[.val (.int l1), .val (.int c1), .val (.int l2), .val (.int c2), .val (.int f), .val (.int ll2), .val (.int cc2), .val (.ref b11), .val (.ref b25), .val (.int ex), .val (.int (own_sg (own_cmpP l1 c1 ll2 cc2))), .val (.int (own_sg (own_cmpP ll2 cc2 l1 c1)))] [(.int (1 : Int32))])) t → Steps p.tables e below (s₁.setTop (entryFrame m #[(.int l1), (.int c1), (.int l2), (.int c2), (.int f)] maxLocals)) t := fun t kt => by
    refine S71 t ?_
    show Steps p.tables e below (T67.setTop (mkF m 139 #[.val (.int l1), .val (.int c1), .val (.int l2), .val (.int c2), .val (.int f), .val (.int ll2), .val (.int cc2), .val (.ref b11), .val (.ref b25), .val (.int ex), .val (.int (own_sg (own_cmpP l1 c1 ll2 cc2))), .val (.int (own_sg (own_cmpP ll2 cc2 l1 c1)))] [(.int (-ex)), (.int (own_sg (own_cmpP ll2 cc2 l1 c1)))])) t
    refine XS.icmpNo X67.here hx rfl (hb hby at_139) rfl (teq hc139_72).2 ?_
    show Steps p.tables e below (T67.setTop (mkF m 142 #[.val (.int l1), .val (.int c1), .val (.int l2), .val (.int c2), .val (.int f), .val (.int ll2), .val (.int cc2), .val (.ref b11), .val (.ref b25), .val (.int ex), .val (.int (own_sg (own_cmpP l1 c1 ll2 cc2))), .val (.int (own_sg (own_cmpP ll2 cc2 l1 c1)))] [])) t
    refine XS.iconst X67.here hx rfl (hb hby at_142) ?_
    show Steps p.tables e below (T67.setTop (mkF m 143 #[.val (.int l1), .val (.int c1), .val (.int l2), .val (.int c2), .val (.int f), .val (.int ll2), .val (.int cc2), .val (.ref b11), .val (.ref b25), .val (.int ex), .val (.int (own_sg (own_cmpP l1 c1 ll2 cc2))), .val (.int (own_sg (own_cmpP ll2 cc2 l1 c1)))] [(.int (1 : Int32))])) t
    refine XS.goto X67.here hx rfl (pc0 := 143) (pc' := 147) rfl (hb hby at_143) (by decide) (by decide) ?_
    exact kt
  obtain ⟨fs, hr, hrun, hended, hW, hsame⟩ := X67.leave (v := some (.int (nar .boolean (1 : Int32)))) (fun h => by rw [Bd.returns] at h; cases h)
  refine ⟨_, _, S73 _ ?_, hrun, hended, _, _, rfl, ?_, ⟨_, rfl⟩, hW, hsame.mono (by decide) (by decide)⟩
  · show Steps p.tables e below (T67.setTop (mkF m 147 #[.val (.int l1), .val (.int c1), .val (.int l2), .val (.int c2), .val (.int f), .val (.int ll2), .val (.int cc2), .val (.ref b11), .val (.ref b25), .val (.int ex), .val (.int (own_sg (own_cmpP l1 c1 ll2 cc2))), .val (.int (own_sg (own_cmpP ll2 cc2 l1 c1)))] [(.int (1 : Int32))])) _
    exact retN X67 hx (t := .boolean) Bd.returns (by simp) (hb hby at_147) hr
  · show own_Q0 Z l1 c1 l2 c2 f h0 n0 _ T67.heap _
    rw [eq66]
    exact ⟨rfl, N37⟩
set_option maxHeartbeats 40000000 in
theorem own_comes {Post : Tables → Env → Array Value → State → Outcome → State → Prop} (hpost : ∀ tb e args s v u, (limb_1_1.after args s (.returned v) u = true ∧ limb_1_2.after args s (.returned v) u = true ∧ True) → FrameEnd s (.returned v) u (Jvm.fieldLocs frame_1_writes args s ++ Jvm.arrayLocs frame_1_arrays args s ++ Jvm.staticLocs frame_1_statics s) 16 128 → Post tb e args s (.returned v) u) :
    ArmFor flags0 classFile x code maxLocals ret World_1 tables_1 room_1 Calls_1 rest_1 Pre_1 Post := by
  intro l hfl _ _ p e ha hc hk s m args below hf hA hF happ hP
  obtain ⟨hcalls, hrest, hpre⟩ := hP
  obtain ⟨-, -, -, hnamed, -, -, -, hat⟩ := (Spec.applies_iff hf).mp happ
  obtain ⟨hg, hn⟩ := and_e (Cond.before_iff.mp (show (Jvm.Cond.and given_1 narrow_1).before args s = true from hpre))
  obtain ⟨g1, g2⟩ := and_e hg
  obtain ⟨g3, g4⟩ := and_e g2
  obtain ⟨g5, g6⟩ := and_e g4
  obtain ⟨g7, g8⟩ := and_e g6
  obtain ⟨g9, g10⟩ := and_e g8
  obtain ⟨w0, w1, w2, w3, w4, rfl⟩ : ∃ w0 w1 w2 w3 w4 : Value, args = #[w0, w1, w2, w3, w4] := by
    have hs : args.size = 5 := by simpa [Cond.value, given_1] using g1
    obtain ⟨L⟩ := args
    match L, hs with
    | [w0, w1, w2, w3, w4], _ => exact ⟨w0, w1, w2, w3, w4, rfl⟩
  have hw := fun d (hd : d ∈ tables_1) => atoms_spec (ws := Jvm.Cond.code x code maxLocals ret :: tables_1) hat d (List.mem_cons_of_mem _ hd)
  have hfit : Fit s := fun {y c} hc i hi => by
    obtain ⟨ha, rfl⟩ := Array.getElem?_eq_some_iff.mp hc
    have q := List.all_eq_true.mp ((Array.all_eq_true_iff_forall_mem.mp hF) _ (Array.getElem_mem ha)) i (List.mem_range.mpr hi)
    simpa [Array.getElem?_eq_getElem hi] using q
  obtain ⟨i0, ei0⟩ := is_v g3
  obtain rfl : w0 = (.int i0) := Option.some.inj ei0
  obtain ⟨i1, ei1⟩ := is_v g5
  obtain rfl : w1 = (.int i1) := Option.some.inj ei1
  obtain ⟨i2, ei2⟩ := is_v g7
  obtain rfl : w2 = (.int i2) := Option.some.inj ei2
  obtain ⟨i3, ei3⟩ := is_v g9
  obtain rfl : w3 = (.int i3) := Option.some.inj ei3
  obtain ⟨i4, ei4⟩ := is_v g10
  obtain rfl : w4 = (.int i4) := Option.some.inj ei4
  obtain ⟨n, o, h1, h2, h3, _, L, rfl, ⟨rfl, N⟩, hq⟩ := own_rm0 l s _ hw tables_1 i0 i1 i2 i3 i4  s.heap s.heap.size (Nat.le_refl _)  p e ha hc hk s m _ below hf ((Spec.applies_iff_loose hf).mp happ).1 ⟨rfl, State.Warmed39.refl s, rfl⟩ trivial
  refine ⟨n, _, h1, h2, h3, hpost _ _ _ _ _ _ ⟨Cond.after_iff.mpr rfl, Cond.after_iff.mpr (eq_i res_at (Term.int_eval (1)) rfl), trivial⟩ ⟨hq.1, hq.2.1, (hq.2.2.sift fun y hy => Or.inr (N y hy)).mono (by decide) (by decide)⟩⟩
theorem main_1_1 : Claimed_1_1 := own_comes fun _ _ _ _ _ _ h hF => ⟨h.1, hF⟩
theorem main_1_2 : Claimed_1_2 := own_comes fun _ _ _ _ _ _ h hF => ⟨h.2.1, hF⟩
end Jvm.Pilot.@@N@@
namespace Jvm.Pilot.@@N@@
open Jvm Jvm.ClassFile Sem Op Lib Jvm.Free Jvm.Stand Jvm.Pilot.@@N@@.Jvm.D
/-! MADE BY PROGRAM (witnessworld.py) out of the Statement's table words and the real class files: 15 classes; the members and pool entries that the words name. The judged class is class 1, her method 2. -/
namespace start1
open Jvm.ClassFile
def u (s : String) : CpInfo := .utf8 (stringToUtf16 s)
/-- a pool by its gaps: so many unusable entries, then the entry; so many at the end -/
def gap : Nat → List CpInfo → List CpInfo
  | 0, r => r
  | n + 1, r => .unusable :: gap n r
def poolList (es : List (Nat × CpInfo)) (last : Nat) : List CpInfo := es.foldr (fun e r => gap e.1 (e.2 :: r)) (gap last [])
def pool (es : List (Nat × CpInfo)) (last : Nat) : Array CpInfo := ⟨poolList es last⟩
def fileOf (pool : Array CpInfo) (this : Nat) (attrs : Array Attribute := #[]) (ms : Array MethodInfo := #[]) (fl : Nat := 33) (sup : Nat := 0) (ifs : Array Nat := #[]) (fds : Array FieldInfo := #[]) : ClassFile where
  minorVersion := 0
  majorVersion := 65
  constantPool := pool
  accessFlags := fl
  thisClass := this
  superClass := sup
  interfaces := ifs
  fields := fds
  methods := ms
  attributes := attrs
def plain (name : String) (sup : Option ClassId) : Class where
  name := name
  kind := .ordinary
  loader := none
  accessFlags := 33
  super := sup
  interfaces := #[]
  cf := none
  fields := #[]
  methods := #[]
  instanceTypes := #[]
  staticTypes := #[]
  resolved := #[]
  callSites := []
  init := .initialized
  statics := none
  mirror := none

def pool0 : Array CpInfo := pool [(5, u "<init>"), (0, u "()V"), (1, .class_ 10), (1, u "java/lang/Object")] 113

def k0c0 : Code := { maxStack := 0, maxLocals := 1, code := object_method_1_code, exceptionTable := #[], attributes := #[] }
def k0m0 : Method := { name := "<init>", desc := "()V", sig := { parameters := [], returnType := none }, accessFlags := 1, code := some k0c0 }
/-- java/lang/Object -/
def k0 : Class := { plain "java/lang/Object" none with
  accessFlags := 33
  interfaces := #[]
  cf := some (fileOf pool0 8 #[] #[{ accessFlags := 1, nameIndex := 5, descriptorIndex := 6, attributes := #[] }] 33 0 #[] #[])
  fields := #[]
  methods := #[k0m0]
  instanceTypes := #[]
  staticTypes := #[]
  resolved := Array.replicate 124 none
  statics := none }

def pool1 : Array CpInfo := pool [(2, .class_ 4), (1, u "java/lang/Object"), (0, u "<init>"), (0, u "()V"), (0, .class_ 8), (0, u "com/example/splode/splode/document/Position"), (0, .methodref 7 10), (0, .nameAndType 5 11), (0, u "(II)V"), (0, .methodref 7 13), (0, .nameAndType 14 15), (0, u "compareTo"), (0, u "(Lcom/example/splode/splode/document/Position;)I"), (0, .methodref 17 18), (0, .class_ 19), (0, .nameAndType 20 21), (0, u "com/example/splode/splode/document/PositionCompareToPinLaw"), (0, u "sign"), (0, u "(I)I"), (3, u "law"), (0, u "(IIIII)Z")] 2

def k1m0 : Method := { name := "<init>", desc := "()V", sig := { parameters := [], returnType := none }, accessFlags := 1, code := none }
def k1c1 : Code := { maxStack := 1, maxLocals := 1, code := method_2_code, exceptionTable := #[], attributes := #[] }
def k1m1 : Method := { name := "sign", desc := "(I)I", sig := { parameters := [.int], returnType := some .int }, accessFlags := 10, code := some k1c1 }
def k1c2 : Code := { maxStack := 4, maxLocals := 12, code := code, exceptionTable := #[], attributes := #[] }
def k1m2 : Method := { name := "law", desc := "(IIIII)Z", sig := { parameters := [.int, .int, .int, .int, .int], returnType := some .boolean }, accessFlags := 9, code := some k1c2 }
/-- com/example/splode/splode/document/PositionCompareToPinLaw -/
def k1 : Class := { plain "com/example/splode/splode/document/PositionCompareToPinLaw" (some 0) with
  accessFlags := 49
  interfaces := #[]
  cf := some (fileOf pool1 17 #[] #[{ accessFlags := 1, nameIndex := 5, descriptorIndex := 6, attributes := #[] }, { accessFlags := 10, nameIndex := 20, descriptorIndex := 21, attributes := #[] }, { accessFlags := 9, nameIndex := 25, descriptorIndex := 26, attributes := #[] }] 49 2 #[] #[])
  fields := #[]
  methods := #[k1m0, k1m1, k1m2]
  instanceTypes := #[]
  staticTypes := #[]
  resolved := Array.replicate 29 none
  statics := none }

def pool2 : Array CpInfo := pool [(1, .methodref 2 3), (0, .class_ 4), (0, .nameAndType 5 6), (0, u "java/lang/Object"), (0, u "<init>"), (0, u "()V"), (0, .class_ 8), (0, u "java/lang/Record")] 13

def k2c0 : Code := { maxStack := 1, maxLocals := 1, code := jdk_30_method_1_code, exceptionTable := #[], attributes := #[] }
def k2m0 : Method := { name := "<init>", desc := "()V", sig := { parameters := [], returnType := none }, accessFlags := 4, code := some k2c0 }
/-- java/lang/Record -/
def k2 : Class := { plain "java/lang/Record" (some 0) with
  accessFlags := 1057
  interfaces := #[]
  cf := some (fileOf pool2 7 #[] #[{ accessFlags := 4, nameIndex := 5, descriptorIndex := 6, attributes := #[] }] 1057 2 #[] #[])
  fields := #[]
  methods := #[k2m0]
  instanceTypes := #[]
  staticTypes := #[]
  resolved := Array.replicate 22 none
  statics := none }

def pool3 : Array CpInfo := pool [(1, .class_ 2), (0, u "java/lang/Comparable"), (0, .class_ 4), (0, u "java/lang/Object")] 7

/-- java/lang/Comparable -/
def k3 : Class := { plain "java/lang/Comparable" (some 0) with
  accessFlags := 1537
  interfaces := #[]
  cf := some (fileOf pool3 1 #[] #[] 1537 3 #[] #[])
  fields := #[]
  methods := #[]
  instanceTypes := #[]
  staticTypes := #[]
  resolved := Array.replicate 12 none
  statics := none }

def pool4 : Array CpInfo := pool [(1, .methodref 2 3), (0, .class_ 4), (0, .nameAndType 5 6), (0, u "java/lang/Record"), (0, u "<init>"), (0, u "()V"), (0, .fieldref 8 9), (0, .class_ 10), (0, .nameAndType 11 12), (0, u "com/example/splode/splode/document/Position"), (0, u "line"), (0, u "I"), (0, .fieldref 8 14), (0, .nameAndType 15 12), (0, u "column"), (0, .methodref 17 18), (0, .class_ 19), (0, .nameAndType 20 21), (0, u "java/lang/Integer"), (0, u "compare"), (0, u "(II)I"), (6, u "compareTo"), (0, u "(Lcom/example/splode/splode/document/Position;)I"), (7, .class_ 38), (0, u "java/lang/Comparable"), (0, u "(II)V")] 40

def k4c0 : Code := { maxStack := 2, maxLocals := 3, code := prog_44_method_1_code, exceptionTable := #[], attributes := #[] }
def k4m0 : Method := { name := "<init>", desc := "(II)V", sig := { parameters := [.int, .int], returnType := none }, accessFlags := 1, code := some k4c0 }
def k4c1 : Code := { maxStack := 2, maxLocals := 3, code := prog_44_method_2_code, exceptionTable := #[], attributes := #[] }
def k4m1 : Method := { name := "compareTo", desc := "(Lcom/example/splode/splode/document/Position;)I", sig := { parameters := [(.object "com/example/splode/splode/document/Position")], returnType := some .int }, accessFlags := 1, code := some k4c1 }
/-- com/example/splode/splode/document/Position -/
def k4 : Class := { plain "com/example/splode/splode/document/Position" (some 2) with
  accessFlags := 49
  interfaces := #[3]
  cf := some (fileOf pool4 8 #[] #[{ accessFlags := 1, nameIndex := 5, descriptorIndex := 39, attributes := #[] }, { accessFlags := 1, nameIndex := 28, descriptorIndex := 29, attributes := #[] }] 49 2 #[37] #[{ accessFlags := 18, nameIndex := 11, descriptorIndex := 12, attributes := #[] }, { accessFlags := 18, nameIndex := 15, descriptorIndex := 12, attributes := #[] }])
  fields := #[{ name := "line", type := .int, accessFlags := 18, slot := 0, constantValue := 0 }, { name := "column", type := .int, accessFlags := 18, slot := 1, constantValue := 0 }]
  methods := #[k4m0, k4m1]
  instanceTypes := #[.int, .int]
  staticTypes := #[]
  resolved := Array.replicate 80 none
  statics := none }

def pool5 : Array CpInfo := pool [(1, .class_ 2), (0, u "java/io/Serializable"), (0, .class_ 4), (0, u "java/lang/Object")] 2

/-- java/io/Serializable -/
def k5 : Class := { plain "java/io/Serializable" (some 0) with
  accessFlags := 1537
  interfaces := #[]
  cf := some (fileOf pool5 1 #[] #[] 1537 3 #[] #[])
  fields := #[]
  methods := #[]
  instanceTypes := #[]
  staticTypes := #[]
  resolved := Array.replicate 7 none
  statics := none }

def pool6 : Array CpInfo := pool [(2, .class_ 4), (1, u "java/lang/Object"), (0, u "<init>"), (0, u "()V"), (1, .class_ 10), (1, u "java/lang/Number"), (2, .class_ 14), (0, u "java/io/Serializable"), (0, u "serialVersionUID"), (0, u "J")] 20

def k6m0 : Method := { name := "<init>", desc := "()V", sig := { parameters := [], returnType := none }, accessFlags := 1, code := none }
/-- java/lang/Number -/
def k6 : Class := { plain "java/lang/Number" (some 0) with
  accessFlags := 1057
  interfaces := #[5]
  cf := some (fileOf pool6 8 #[] #[{ accessFlags := 1, nameIndex := 5, descriptorIndex := 6, attributes := #[] }] 1057 2 #[13] #[{ accessFlags := 26, nameIndex := 15, descriptorIndex := 16, attributes := #[] }])
  fields := #[{ name := "serialVersionUID", type := .long, accessFlags := 26, slot := 0, constantValue := 0 }]
  methods := #[k6m0]
  instanceTypes := #[]
  staticTypes := #[.long]
  resolved := Array.replicate 37 none
  statics := none }

def pool7 : Array CpInfo := pool [(1, .class_ 2), (0, u "java/lang/constant/Constable"), (0, .class_ 4), (0, u "java/lang/Object")] 6

/-- java/lang/constant/Constable -/
def k7 : Class := { plain "java/lang/constant/Constable" (some 0) with
  accessFlags := 1537
  interfaces := #[]
  cf := some (fileOf pool7 1 #[] #[] 1537 3 #[] #[])
  fields := #[]
  methods := #[]
  instanceTypes := #[]
  staticTypes := #[]
  resolved := Array.replicate 11 none
  statics := none }

def pool8 : Array CpInfo := pool [(1, .class_ 2), (0, u "java/lang/constant/ConstantDesc"), (0, .class_ 4), (0, u "java/lang/Object")] 32

/-- java/lang/constant/ConstantDesc -/
def k8 : Class := { plain "java/lang/constant/ConstantDesc" (some 0) with
  accessFlags := 1537
  interfaces := #[]
  cf := some (fileOf pool8 1 #[] #[] 1537 3 #[] #[])
  fields := #[]
  methods := #[]
  instanceTypes := #[]
  staticTypes := #[]
  resolved := Array.replicate 37 none
  statics := none }

def pool9 : Array CpInfo := pool [(1, .class_ 2), (0, u "java/lang/Integer"), (16, u "digits"), (0, u "[C"), (39, u "(II)I"), (24, u "DigitOnes"), (0, u "[B"), (2, u "DigitTens"), (99, .class_ 190), (0, u "java/lang/Integer$IntegerCache"), (3, u "I"), (8, .class_ 204), (0, u "java/lang/Number"), (2, u "value"), (53, u "compare"), (40, u "TYPE"), (0, u "Ljava/lang/Class;"), (0, .class_ 305), (0, u "java/lang/Comparable"), (0, .class_ 307), (0, u "java/lang/constant/Constable"), (0, .class_ 309), (0, u "java/lang/constant/ConstantDesc"), (0, u "MIN_VALUE"), (1, u "MAX_VALUE"), (3, u "SIZE"), (1, u "BYTES"), (1, u "serialVersionUID"), (0, u "J")] 131

def k9c0 : Code := { maxStack := 2, maxLocals := 2, code := jdk_33_method_40_code, exceptionTable := #[], attributes := #[] }
def k9m0 : Method := { name := "compare", desc := "(II)I", sig := { parameters := [.int, .int], returnType := some .int }, accessFlags := 9, code := some k9c0 }
/-- java/lang/Integer -/
def k9 : Class := { plain "java/lang/Integer" (some 6) with
  accessFlags := 49
  interfaces := #[3, 7, 8]
  cf := some (fileOf pool9 1 #[.nestMembers #[189]] #[{ accessFlags := 9, nameIndex := 261, descriptorIndex := 60, attributes := #[] }] 49 203 #[304, 306, 308] #[{ accessFlags := 25, nameIndex := 310, descriptorIndex := 194, attributes := #[] }, { accessFlags := 25, nameIndex := 312, descriptorIndex := 194, attributes := #[] }, { accessFlags := 25, nameIndex := 302, descriptorIndex := 303, attributes := #[] }, { accessFlags := 24, nameIndex := 19, descriptorIndex := 20, attributes := #[] }, { accessFlags := 24, nameIndex := 89, descriptorIndex := 86, attributes := #[] }, { accessFlags := 24, nameIndex := 85, descriptorIndex := 86, attributes := #[] }, { accessFlags := 18, nameIndex := 207, descriptorIndex := 194, attributes := #[] }, { accessFlags := 25, nameIndex := 316, descriptorIndex := 194, attributes := #[] }, { accessFlags := 25, nameIndex := 318, descriptorIndex := 194, attributes := #[] }, { accessFlags := 26, nameIndex := 320, descriptorIndex := 321, attributes := #[] }])
  fields := #[{ name := "MIN_VALUE", type := .int, accessFlags := 25, slot := 0, constantValue := 0 }, { name := "MAX_VALUE", type := .int, accessFlags := 25, slot := 1, constantValue := 0 }, { name := "TYPE", type := (.object "java/lang/Class"), accessFlags := 25, slot := 2, constantValue := 0 }, { name := "digits", type := (.array .char), accessFlags := 24, slot := 3, constantValue := 0 }, { name := "DigitTens", type := (.array .byte), accessFlags := 24, slot := 4, constantValue := 0 }, { name := "DigitOnes", type := (.array .byte), accessFlags := 24, slot := 5, constantValue := 0 }, { name := "value", type := .int, accessFlags := 18, slot := 0, constantValue := 0 }, { name := "SIZE", type := .int, accessFlags := 25, slot := 6, constantValue := 0 }, { name := "BYTES", type := .int, accessFlags := 25, slot := 7, constantValue := 0 }, { name := "serialVersionUID", type := .long, accessFlags := 26, slot := 8, constantValue := 0 }]
  methods := #[k9m0]
  instanceTypes := #[.int]
  staticTypes := #[.int, .int, (.object "java/lang/Class"), (.array .char), (.array .byte), (.array .byte), .int, .int, .long]
  resolved := Array.replicate 453 none
  statics := none }

def pool10 : Array CpInfo := pool [(1, u "java/lang/Cloneable"), (0, .class_ 1), (0, u "java/lang/Object"), (0, .class_ 3)] 3

/-- java/lang/Cloneable -/
def k10 : Class := { plain "java/lang/Cloneable" (some 0) with
  accessFlags := 1537
  interfaces := #[]
  cf := some (fileOf pool10 2 #[] #[] 1537 4 #[] #[])
  fields := #[]
  methods := #[]
  instanceTypes := #[]
  staticTypes := #[]
  resolved := Array.replicate 8 none
  statics := none }

/-- the primitive byte -/
def k11 : Class := { plain "byte" none with kind := .primitive 'B', accessFlags := 0x411 }
/-- [B -/
def k12 : Class := { plain "[B" (some 0) with kind := .array 11 .byte, interfaces := #[10, 5], accessFlags := 1041 }

/-- the primitive int -/
def k13 : Class := { plain "int" none with kind := .primitive 'I', accessFlags := 0x411 }
/-- [I -/
def k14 : Class := { plain "[I" (some 0) with kind := .array 13 .int, interfaces := #[10, 5], accessFlags := 1041 }

def heap : Heap := #[]
def classes : Array Class := #[k0, k1, k2, k3, k4, k5, k6, k7, k8, k9, k10, k11, k12, k13, k14]
def interned : List (Array UInt16 × Addr) := []
def slotsUsed : Nat := 0
def theMethod : MethodId := ⟨1, 2⟩
def args0 : Array Value := #[.int 1, .int 2, .int 3, .int 4, .int 5]
def aboutOver (below : List Frame) : State where
  vm := { classes := classes, interned := interned.toArray }
  heap := heap
  slotsUsed := slotsUsed
  threads := #[{ frames := .invoking theMethod args0 :: below }]
def below0 : List Frame := [.native { method := ⟨0, 0⟩, args := #[] }]
def about1 : State := aboutOver below0
def p0 : Program := .bare "" "" ""
def e0 : Env := launch0.env 0 0 0
theorem w_frames : about1.frames = Frame.invoking theMethod args0 :: below0 := rfl
set_option maxRecDepth 65536 in
theorem w_args : argsFit about1.vm theMethod args0 = true := by decide +kernel
set_option maxRecDepth 65536 in
theorem w_heap : heapFits about1 = true := by decide +kernel
set_option maxRecDepth 65536 in
theorem w_runnable : about1.curStatus? = some .runnable := by decide +kernel
set_option maxRecDepth 65536 in
theorem w_alone : about1.alone = true := by decide +kernel
set_option maxRecDepth 65536 in
theorem w_named : about1.methodNamed? x = some theMethod := by decide +kernel
set_option maxRecDepth 65536 in
theorem w_hears : about1.hears theMethod below0 = true := by decide +kernel
set_option maxRecDepth 65536 in
theorem w_ripe : about1.ripe theMethod args0 below0 = true := by decide +kernel
theorem w_running : about1.status = .running := rfl
set_option maxRecDepth 65536 in
theorem w_room : about1.hasRoom e0.platform room_1 = true :=
  launch0.hasRoom_least _ room_1 (by decide +kernel) (by decide +kernel) (by decide +kernel) (by decide +kernel) (by decide +kernel) (by decide +kernel)
theorem allAtoms_all (ts : List Jvm.Cond) (a : Array Jvm.Value) (st : Jvm.State) : (allAtoms ts).before a st = ts.all (fun c => c.before a st) := by
  induction ts with
  | nil => rfl
  | cons c t ih =>
    show (Jvm.Cond.and c (allAtoms t)).before a st = _
    rw [Jvm.Cond.before_and, ih, List.all_cons]
def words1 : List Jvm.Cond := Jvm.Cond.code x code maxLocals ret :: tables_1
/-- a 'code' word, met by the world's own term for the bytes: nothing is compared byte by byte -/
theorem code_word {y : MethodName} {bytes : ByteArray} {mx : Nat} {rt : Option FieldType} {a : Array Value} {s : State} {m : MethodId} {meth : Method} {c : Code} (h1 : s.methodNamed? y = some m) (h2 : s.vm.method? m = some meth) (h3 : meth.code = some c) (h4 : c.code = bytes)
    (h5 : (c.maxLocals == mx && c.exceptionTable.isEmpty && decide (c.maxStack ≤ mostOperands) && decide (meth.sig.returnType = rt) && !meth.locks && decide (parseMethodDescriptor y.desc = some meth.sig)) = true) : (Jvm.Cond.code y bytes mx rt).before a s = true := by
  simp only [Bool.and_eq_true, beq_iff_eq, Bool.not_eq_true', decide_eq_true_eq] at h5
  obtain ⟨⟨⟨⟨⟨g1, g2⟩, g3⟩, g4⟩, g5⟩, g6⟩ := h5
  simp [Cond.before, Cond.holds, Cond.value, h1, h2, h3, h4, g1, g2, g3, g4, g5, g6]
def isCode : Jvm.Cond → Bool
  | .code _ _ _ _ => true
  | _ => false
theorem all_split {L : List Jvm.Cond} {P : Jvm.Cond → Bool} (h1 : L.all (fun c => isCode c || P c) = true) (h2 : ∀ c ∈ L.filter isCode, P c = true) : L.all P = true := by
  refine List.all_eq_true.mpr fun c hc => ?_
  have h := List.all_eq_true.mp h1 c hc
  rcases Bool.eq_false_or_eq_true (isCode c) with hi | hi
  · exact h2 c (List.mem_filter.mpr ⟨hc, hi⟩)
  · simpa [hi] using h
set_option maxRecDepth 65536 in
theorem w_c0 : (Jvm.Cond.code x code maxLocals ret).before args0 about1 = true := code_word (m := ⟨1, 2⟩) (meth := k1m2) (c := k1c2) (by decide +kernel) rfl rfl rfl (by decide +kernel)
set_option maxRecDepth 65536 in
theorem w_c1 : (Jvm.Cond.code ({ cls := "com/example/splode/splode/document/Position", name := "<init>", desc := "(II)V" } : Jvm.MethodName) prog_44_method_1_code (3 : Nat) (Option.none : Option Jvm.ClassFile.FieldType)).before args0 about1 = true := code_word (m := ⟨4, 0⟩) (meth := k4m0) (c := k4c0) (by decide +kernel) rfl rfl rfl (by decide +kernel)
set_option maxRecDepth 65536 in
theorem w_c2 : (Jvm.Cond.code ({ cls := "java/lang/Record", name := "<init>", desc := "()V" } : Jvm.MethodName) jdk_30_method_1_code (1 : Nat) (Option.none : Option Jvm.ClassFile.FieldType)).before args0 about1 = true := code_word (m := ⟨2, 0⟩) (meth := k2m0) (c := k2c0) (by decide +kernel) rfl rfl rfl (by decide +kernel)
set_option maxRecDepth 65536 in
theorem w_c3 : (Jvm.Cond.code ({ cls := "java/lang/Object", name := "<init>", desc := "()V" } : Jvm.MethodName) object_method_1_code (1 : Nat) (Option.none : Option Jvm.ClassFile.FieldType)).before args0 about1 = true := code_word (m := ⟨0, 0⟩) (meth := k0m0) (c := k0c0) (by decide +kernel) rfl rfl rfl (by decide +kernel)
set_option maxRecDepth 65536 in
theorem w_c4 : (Jvm.Cond.code ({ cls := "com/example/splode/splode/document/Position", name := "compareTo", desc := "(Lcom/example/splode/splode/document/Position;)I" } : Jvm.MethodName) prog_44_method_2_code (3 : Nat) (Option.some Jvm.ClassFile.FieldType.int)).before args0 about1 = true := code_word (m := ⟨4, 1⟩) (meth := k4m1) (c := k4c1) (by decide +kernel) rfl rfl rfl (by decide +kernel)
set_option maxRecDepth 65536 in
theorem w_c5 : (Jvm.Cond.code ({ cls := "java/lang/Integer", name := "compare", desc := "(II)I" } : Jvm.MethodName) jdk_33_method_40_code (2 : Nat) (Option.some Jvm.ClassFile.FieldType.int)).before args0 about1 = true := code_word (m := ⟨9, 0⟩) (meth := k9m0) (c := k9c0) (by decide +kernel) rfl rfl rfl (by decide +kernel)
set_option maxRecDepth 65536 in
theorem w_c6 : (Jvm.Cond.code ({ cls := "com/example/splode/splode/document/PositionCompareToPinLaw", name := "sign", desc := "(I)I" } : Jvm.MethodName) method_2_code (1 : Nat) (Option.some Jvm.ClassFile.FieldType.int)).before args0 about1 = true := code_word (m := ⟨1, 1⟩) (meth := k1m1) (c := k1c1) (by decide +kernel) rfl rfl rfl (by decide +kernel)
def codes1 : List Jvm.Cond := [Jvm.Cond.code x code maxLocals ret, Jvm.Cond.code ({ cls := "com/example/splode/splode/document/Position", name := "<init>", desc := "(II)V" } : Jvm.MethodName) prog_44_method_1_code (3 : Nat) (Option.none : Option Jvm.ClassFile.FieldType), Jvm.Cond.code ({ cls := "java/lang/Record", name := "<init>", desc := "()V" } : Jvm.MethodName) jdk_30_method_1_code (1 : Nat) (Option.none : Option Jvm.ClassFile.FieldType), Jvm.Cond.code ({ cls := "java/lang/Object", name := "<init>", desc := "()V" } : Jvm.MethodName) object_method_1_code (1 : Nat) (Option.none : Option Jvm.ClassFile.FieldType), Jvm.Cond.code ({ cls := "com/example/splode/splode/document/Position", name := "compareTo", desc := "(Lcom/example/splode/splode/document/Position;)I" } : Jvm.MethodName) prog_44_method_2_code (3 : Nat) (Option.some Jvm.ClassFile.FieldType.int), Jvm.Cond.code ({ cls := "java/lang/Integer", name := "compare", desc := "(II)I" } : Jvm.MethodName) jdk_33_method_40_code (2 : Nat) (Option.some Jvm.ClassFile.FieldType.int), Jvm.Cond.code ({ cls := "com/example/splode/splode/document/PositionCompareToPinLaw", name := "sign", desc := "(I)I" } : Jvm.MethodName) method_2_code (1 : Nat) (Option.some Jvm.ClassFile.FieldType.int)]
set_option maxRecDepth 65536 in
theorem codes_eq : words1.filter isCode = codes1 := rfl
theorem w_codes : ∀ c ∈ words1.filter isCode, c.before args0 about1 = true := by
  rw [codes_eq]
  intro c hc
  simp only [codes1, List.mem_cons, List.not_mem_nil, or_false] at hc
  rcases hc with rfl | rfl | rfl | rfl | rfl | rfl | rfl
  · exact w_c0
  · exact w_c1
  · exact w_c2
  · exact w_c3
  · exact w_c4
  · exact w_c5
  · exact w_c6
set_option maxRecDepth 65536 in
theorem w_t1 : (words1.take 24).all (fun c => isCode c || c.before args0 about1) = true := by decide +kernel
set_option maxRecDepth 65536 in
theorem w_t2 : (words1.drop 24).all (fun c => isCode c || c.before args0 about1) = true := by decide +kernel
theorem w_tables : (allAtoms (Jvm.Cond.code x code maxLocals ret :: tables_1)).before args0 about1 = true := by
  rw [allAtoms_all]
  show words1.all (fun c => c.before args0 about1) = true
  refine all_split ?_ w_codes
  rw [← List.take_append_drop 24 words1, List.all_append, w_t1, w_t2]
  rfl
set_option maxRecDepth 65536 in
theorem w_case : (Jvm.Cond.and given_1 narrow_1).before args0 about1 = true := by decide +kernel
theorem w_applies : (headSpec (Jvm.Cond.code x code maxLocals ret :: tables_1) room_1).applies x e0.platform about1 = true :=
  (Spec.applies_iff w_frames).mpr ⟨w_running, w_runnable, w_alone, w_named, w_hears, w_ripe, w_room, w_tables⟩
theorem atStart : AtStart classFile x code maxLocals ret World_1 tables_1 room_1 Calls_1 rest_1 Pre_1 launch0 p0 e0 about1 theMethod args0 below0 :=
  ⟨lists_1, trivial, launch0.admits_env _ _ _, launch0.least_env, fairChoices_fair.cas, fairChoices_fair.clock, w_frames, w_args, w_heap, w_applies, trivial, trivial, w_case⟩
end start1
theorem witness_1 : WitnessClaimed_1 := ⟨start1.p0, start1.e0, start1.about1, start1.theMethod, start1.args0, start1.below0, start1.atStart⟩
end Jvm.Pilot.@@N@@
