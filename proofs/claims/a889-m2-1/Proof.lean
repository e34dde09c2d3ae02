import JvmDerived
import JvmDerived.Pilot.@@N@@Statement
import JvmDerived.Pilot.@@N@@Code
set_option linter.unusedVariables false
set_option linter.unusedSimpArgs false
set_option maxRecDepth 65536
namespace Jvm.Pilot.@@N@@
open Jvm Jvm.ClassFile Sem Op Lib Jvm.Free Jvm.Stand Jvm.LawKit Jvm.RoadKit Bundle Jvm.Pilot.@@N@@.Jvm.D
section OwnKit
variable {p : Program} {l : Launch} {e : Env} {R : Room} {s : State} {m : MethodId} {args : Array Value} {below : List Frame} {meth : Method} {c : Code} {T : State} {locs : List Loc} {cells slots : Nat}
theorem own_retI (X : Stand p l e R s m args below meth c T locs cells slots) (hx : p.tables.exec = Jvm.exec) {pc : Nat} {Ls : Array Slot} {z : Int32} {rest : List Value} (hret : meth.sig.returnType = some .int) (hd : decode c.code pc = .ok (.ireturn, 1)) {fs : List Frame}
    (hl : ∀ (f : JFrame) (acts : List Action), f.method = m → f.locked = none → f.entered = [] → (doReturn e (T.setTop f) acts (some (.int z))).1 = T.setFrames fs) : Steps p.tables e below (T.setTop (mkF m pc Ls (.int z :: rest))) (T.setFrames fs) := by
  have hm' : T.vm.method? m = some meth := X.method'
  have hn : narrow .int (.int z) = .int z := rfl
  show Steps p.tables e below (T.setTop { method := m, pc := pc, locals := Ls, stack := _ :: rest, locked := none }) _
  jvm_step X.here [X.here.top, hx, hd, hm', hret, hn]
  first | (intro acts; rw [hl _ acts rfl rfl rfl]) | rw [hl _ _ rfl rfl rfl]
  exact Steps.refl _
/-- where the run stands, with the same writes and figures as at X -/
abbrev own_like (_ : Stand p l e R s m args below meth c T locs cells slots) (T' : State) : Prop := Stand p l e R s m args below meth c T' locs cells slots
end OwnKit
theorem own_Llt {a b : Int64} (h : a < b) : ifCond.holds .lt (lcmpW a b) = true ∧ ifCond.holds .ge (lcmpW a b) = false ∧ ifCond.holds .gt (lcmpW b a) = true ∧ ifCond.holds .le (lcmpW b a) = false := by
  simp only [if0]
  exact ⟨(tlt ((lw_lt a b).mpr h)).1, (tlt ((lw_lt a b).mpr h)).2.1, (tlt ((lw_gt b a).mpr h)).2.2.1, (tlt ((lw_gt b a).mpr h)).2.2.2⟩
theorem own_Lnl {a b : Int64} (h : ¬ a < b) : ifCond.holds .lt (lcmpW a b) = false ∧ ifCond.holds .ge (lcmpW a b) = true ∧ ifCond.holds .gt (lcmpW b a) = false ∧ ifCond.holds .le (lcmpW b a) = true := by
  simp only [if0]
  have h1 : ¬ lcmpW a b < 0 := fun q => h ((lw_lt a b).mp q)
  have h2 : ¬ 0 < lcmpW b a := fun q => h ((lw_gt b a).mp q)
  exact ⟨(flt h1).1, (flt h1).2.1, (flt h2).2.2.1, (flt h2).2.2.2⟩
theorem own_Leq {a b : Int64} (h : a = b) : ifCond.holds .eq (lcmpW a b) = true ∧ ifCond.holds .ne (lcmpW a b) = false := by
  simp only [if0]
  exact teq ((lw_eq a b).mpr h)
theorem own_Lne {a b : Int64} (h : ¬ a = b) : ifCond.holds .eq (lcmpW a b) = false ∧ ifCond.holds .ne (lcmpW a b) = true := by
  simp only [if0]
  exact feq fun q => h ((lw_eq a b).mp q)
theorem own_StaK {Z : State} {h h' : Heap} {C n d : String} {v : Value} {ws : List Addr} (F : Sta Z h C n d v) (K : Keep h h' ws) (q : ∀ x ∈ ws, ∃ c : Cell, h[x]? = some c ∧ c.vm.isStatics = false) : Sta Z h' C n d v := by
  obtain ⟨cf, i, k, f, st, cell, h1, h2, h3, h4, h5, h6, h7⟩ := F
  refine ⟨cf, i, k, f, st, cell, h1, h2, h3, h4, K.2.1 st cell h5 (fun hm => ?_), h6, h7⟩
  obtain ⟨c, e1, e2⟩ := q _ hm
  rw [h5] at e1
  cases e1
  rw [h6] at e2
  cases e2
theorem own_ExaS {Z : State} {h : Heap} {a : Addr} {C : String} (E : Exa Z h a C) : ∃ c : Cell, h[a]? = some c ∧ c.vm.isStatics = false := by
  obtain ⟨c, k, e1, -, -, e2, -⟩ := E
  exact ⟨c, e1, e2⟩
/-- a boolean as the JVM's int -/
def own_b (b : Bool) : Int32 := if b then 1 else 0
theorem own_b_t : own_b true = 1 := rfl
theorem own_b_f : own_b false = 0 := rfl
theorem own_b0 {b : Bool} : own_b b = 0 ↔ b = false := by cases b <;> decide
theorem own_b_inj {b c : Bool} : own_b b = own_b c ↔ b = c := by cases b <;> cases c <;> decide
theorem own_leafT {b : Bool} (h : b = true) : (some (.int (nar .boolean (1 : Int32))) : Option Value) = some (.int (own_b b)) := by subst h; rfl
theorem own_leafF {b : Bool} (h : b = false) : (some (.int (nar .boolean (0 : Int32))) : Option Value) = some (.int (own_b b)) := by subst h; rfl
theorem own_bt {b : Bool} (h : b = true) : (1 : Int32) = own_b b := by subst h; rfl
theorem own_bf {b : Bool} (h : b = false) : (0 : Int32) = own_b b := by subst h; rfl
theorem own_b_nar (b : Bool) : nar .boolean (own_b b) = own_b b := by cases b <;> rfl
theorem own_wS {Z : State} {a0 : Array Value} (hw : ∀ d ∈ tables_1, d.before a0 Z = true) : ∀ a ∈ Bundle.stringAtoms, a.before a0 Z = true := by
  intro d hd
  simp only [Bundle.stringAtoms, List.mem_cons, List.not_mem_nil, or_false] at hd
  rcases hd with rfl | rfl | rfl | rfl | rfl | rfl | rfl
  · exact (hw _ (List.mem_of_getElem? (i := 4) rfl))
  · exact (hw _ (List.mem_of_getElem? (i := 5) rfl))
  · exact (hw _ (List.mem_of_getElem? (i := 6) rfl))
  · exact (hw _ (List.mem_of_getElem? (i := 7) rfl))
  · exact (hw _ (List.mem_of_getElem? (i := 8) rfl))
  · exact (hw _ (List.mem_of_getElem? (i := 9) rfl))
  · exact (hw _ (List.mem_of_getElem? (i := 10) rfl))
theorem own_p1 (t : Int64) : (0 : Int64) + (t * (1000000 : Int64)) = (t * (1000 : Int64)) * (1000 : Int64) := by
  rw [Int64.mul_assoc, Int64.zero_add]; rfl
theorem own_p2 (f t : Int64) : f + (t * (1000000 : Int64)) = f + ((t * (1000 : Int64)) * (1000 : Int64)) := by
  rw [Int64.mul_assoc]; rfl
theorem own_p3 (f t : Int64) : (f + (t * (1000000 : Int64))) - f = (t * (1000 : Int64)) * (1000 : Int64) := by
  rw [Int64.mul_assoc, Int64.add_comm, Int64.add_sub_cancel]; rfl
theorem own_d2_0 : decode jdk_30_method_1_code 0 = .ok (.aload_n 0, 1) := by decide +kernel
theorem own_d2_1 : decode jdk_30_method_1_code 1 = .ok (.invokespecial 1, 3) := by decide +kernel
theorem own_d2_4 : decode jdk_30_method_1_code 4 = .ok (.return_, 1) := by decide +kernel
theorem own_ef2 (m : MethodId) (x0 : Addr) : entryFrame m #[(.ref x0)] 1 = mkF m 0 #[.val (.ref x0)] [] := by first | (simp [entryFrame, mkF, argsToLocals, Value.category]; done) | rfl
def own_Q2 (Z : State) (a : Addr) (h0 : Heap) (n0 : Nat) (v : Option Value) (h : Heap) (L : List Loc) : Prop := v = none ∧ L = [] ∧ h = h0
theorem own_pn0 : plainName "java/lang/Record" = true := by first | (simp [plainName, overriddenIn]; done) | decide +kernel
set_option maxHeartbeats 40000000 in
theorem own_rm2 (l : Launch) (Z : State) (a0 : Array Value) (hw : ∀ d ∈ tables_1, d.before a0 Z = true) (ws : List Jvm.Cond) (a : Addr) (h0 : Heap) (n0 : Nat) (Z0 : n0 ≤ h0.size) :
    MetFree l (⟨"java/lang/Record", "<init>", "()V"⟩ : MethodName) (head1 (Jvm.Cond.code (⟨"java/lang/Record", "<init>", "()V"⟩ : MethodName) jdk_30_method_1_code 1 none :: ws) ({ frames := 1, cells := 0, slots := 0, locals := 12 } : Room)) (fun argv U => argv = #[(.ref a)] ∧ Z.Warmed39 U.vm ∧ U.heap = h0) (fun _ _ _ _ _ => True) (fun _ U o U' => ∃ v L, o = .returned v ∧ own_Q2 Z a h0 n0 v U'.heap L ∧ FrameEnd U o U' L ({ frames := 1, cells := 0, slots := 0, locals := 12 } : Room).cells ({ frames := 1, cells := 0, slots := 0, locals := 12 } : Room).slots) := by
  refine MetFree.of_bodySF (plainFor_of_name own_pn0) hisR ?_
  intro p e s m args below meth c s₁ Bd hml0 hP hK
  obtain ⟨rfl, hZ, hh⟩ := hP
  have hx := Bd.exec
  have hby := Bd.bytes
  have hml : c.maxLocals = 1 := hml0
  have hown : s.vm.findClass "java/lang/Record" = some m.cls := findClass_of_methodNamed Bd.named
  have hnm := (name_of_methodNamed Bd.named Bd.method).1
  have X0 : Stand p l e ({ frames := 1, cells := 0, slots := 0, locals := 12 } : Room) s m #[(.ref a)] below meth c s₁ [] 0 0 := Stand.of_body Bd
  have e0 : s₁.heap = h0 := by rw [← hh, Bd.state]; rfl
  have N0 := Fr.nil n0
  have pre0 : ∀ t, Steps p.tables e below (s₁.setTop (mkF m 0 #[.val (.ref a)] [])) t → Steps p.tables e below (s₁.setTop (entryFrame m #[(.ref a)] 1)) t := fun t k => castTop (own_ef2 m a) k
  have S1 : ∀ t, Steps p.tables e below (s₁.setTop (mkF m 1 #[.val (.ref a)] [(.ref a)])) t → Steps p.tables e below (s₁.setTop (entryFrame m #[(.ref a)] 1)) t := fun t kt => by
    refine pre0 t ?_
    show Steps p.tables e below (s₁.setTop (mkF m 0 #[.val (.ref a)] [])) t
    refine XS.aloadN X0.here hx rfl (hb hby own_d2_0) rfl rfl ?_
    exact kt
  obtain ⟨T2, X2, e2, st2⟩ := initO X0 hx hZ hown (hw _ (List.mem_of_getElem? (i := 21) rfl)) (hw _ (List.mem_of_getElem? (i := 22) rfl)) (hw _ (List.mem_of_getElem? (i := 23) rfl)) e0 (g := (mkF m 1 #[.val (.ref a)] [(.ref a)])) rfl (by rw [hml]; rfl) rfl (hb hby own_d2_1) (by decide) (W := 0) (by show 2 * 0 + _ ≤ _; exact Nat.le_of_eq rfl) (by decide)
  have S3 : ∀ t, Steps p.tables e below (T2.setTop (mkF m 4 #[.val (.ref a)] [])) t → Steps p.tables e below (s₁.setTop (entryFrame m #[(.ref a)] 1)) t := fun t kt => S1 t (st2 _ kt)
  obtain ⟨fs, hr, hrun, hended, hW, hsame⟩ := X2.leave (v := none) (fun _ => rfl)
  refine ⟨_, _, S3 _ ?_, hrun, hended, _, _, rfl, ?_, ⟨_, rfl⟩, hW, hsame.mono (by decide) (by decide)⟩
  · show Steps p.tables e below (T2.setTop (mkF m 4 #[.val (.ref a)] [])) _
    exact X2.returnOut hx Bd.returns (hb hby own_d2_4) hr
  · show own_Q2 Z a h0 n0 _ T2.heap _
    rw [e2]
    exact ⟨rfl, rfl, rfl⟩
theorem own_pd0 : parseMethodDescriptor "()V" = some ⟨[], none⟩ := by decide +kernel
theorem own_d1_0 : decode prog_45_method_1_code 0 = .ok (.aload_n 0, 1) := by decide +kernel
theorem own_d1_1 : decode prog_45_method_1_code 1 = .ok (.invokespecial 1, 3) := by decide +kernel
theorem own_d1_4 : decode prog_45_method_1_code 4 = .ok (.aload_n 0, 1) := by decide +kernel
theorem own_d1_5 : decode prog_45_method_1_code 5 = .ok (.aload_n 1, 1) := by decide +kernel
theorem own_d1_6 : decode prog_45_method_1_code 6 = .ok (.putfield 7, 3) := by decide +kernel
theorem own_d1_9 : decode prog_45_method_1_code 9 = .ok (.aload_n 0, 1) := by decide +kernel
theorem own_d1_10 : decode prog_45_method_1_code 10 = .ok (.aload_n 2, 1) := by decide +kernel
theorem own_d1_11 : decode prog_45_method_1_code 11 = .ok (.putfield 13, 3) := by decide +kernel
theorem own_d1_14 : decode prog_45_method_1_code 14 = .ok (.aload_n 0, 1) := by decide +kernel
theorem own_d1_15 : decode prog_45_method_1_code 15 = .ok (.iload_n 3, 1) := by decide +kernel
theorem own_d1_16 : decode prog_45_method_1_code 16 = .ok (.putfield 16, 3) := by decide +kernel
theorem own_d1_19 : decode prog_45_method_1_code 19 = .ok (.aload_n 0, 1) := by decide +kernel
theorem own_d1_20 : decode prog_45_method_1_code 20 = .ok (.lload 4, 2) := by decide +kernel
theorem own_d1_22 : decode prog_45_method_1_code 22 = .ok (.putfield 20, 3) := by decide +kernel
theorem own_d1_25 : decode prog_45_method_1_code 25 = .ok (.aload_n 0, 1) := by decide +kernel
theorem own_d1_26 : decode prog_45_method_1_code 26 = .ok (.aload 6, 2) := by decide +kernel
theorem own_d1_28 : decode prog_45_method_1_code 28 = .ok (.putfield 24, 3) := by decide +kernel
theorem own_d1_31 : decode prog_45_method_1_code 31 = .ok (.return_, 1) := by decide +kernel
theorem own_ef1 (m : MethodId) (x0 : Addr) (x1 : Addr) (x2 : Addr) (x3 : Int32) (x4 : Int64) (x5 : Addr) : entryFrame m #[(.ref x0), (.ref x1), (.ref x2), (.int x3), (.long x4), (.ref x5)] 7 = mkF m 0 #[.val (.ref x0), .val (.ref x1), .val (.ref x2), .val (.int x3), .val (.long x4), .second, .val (.ref x5)] [] := by first | (simp [entryFrame, mkF, argsToLocals, Value.category]; done) | rfl
def own_Q1 (Z : State) (a : Addr) (s1 : Addr) (s2 : Addr) (n : Int32) (d : Int64) (s3 : Addr) (u0 : Value) (u1 : Value) (u2 : Value) (u3 : Value) (u4 : Value) (h0 : Heap) (n0 : Nat) (v : Option Value) (h : Heap) (L : List Loc) : Prop := v = none ∧ Fr n0 L ∧ Keep h0 h [a] ∧ Exa Z h a "com/example/nestwarden/nestwarden/node/Run" ∧ Fld Z h a "com/example/nestwarden/nestwarden/node/Run" "id" "Ljava/lang/String;" (.ref s1) ∧ Fld Z h a "com/example/nestwarden/nestwarden/node/Run" "name" "Ljava/lang/String;" (.ref s2) ∧ Fld Z h a "com/example/nestwarden/nestwarden/node/Run" "timeoutMs" "I" (.int n) ∧ Fld Z h a "com/example/nestwarden/nestwarden/node/Run" "decideBy" "J" (.long d) ∧ Fld Z h a "com/example/nestwarden/nestwarden/node/Run" "root" "Ljava/lang/String;" (.ref s3)
theorem own_pn1 : plainName "com/example/nestwarden/nestwarden/node/Run" = true := by first | (simp [plainName, overriddenIn]; done) | decide +kernel
set_option maxHeartbeats 40000000 in
theorem own_rm1 (l : Launch) (Z : State) (a0 : Array Value) (hw : ∀ d ∈ tables_1, d.before a0 Z = true) (ws : List Jvm.Cond) (a : Addr) (s1 : Addr) (s2 : Addr) (n : Int32) (d : Int64) (s3 : Addr) (u0 : Value) (u1 : Value) (u2 : Value) (u3 : Value) (u4 : Value) (h0 : Heap) (n0 : Nat) (Z0 : n0 ≤ h0.size) (E_a : Exa Z h0 a "com/example/nestwarden/nestwarden/node/Run") (g_a : n0 ≤ a) (F_id : Fld Z h0 a "com/example/nestwarden/nestwarden/node/Run" "id" "Ljava/lang/String;" u0) (F_name : Fld Z h0 a "com/example/nestwarden/nestwarden/node/Run" "name" "Ljava/lang/String;" u1) (F_timeoutMs : Fld Z h0 a "com/example/nestwarden/nestwarden/node/Run" "timeoutMs" "I" u2) (F_decideBy : Fld Z h0 a "com/example/nestwarden/nestwarden/node/Run" "decideBy" "J" u3) (F_root : Fld Z h0 a "com/example/nestwarden/nestwarden/node/Run" "root" "Ljava/lang/String;" u4) :
    MetFree l (⟨"com/example/nestwarden/nestwarden/node/Run", "<init>", "(Ljava/lang/String;Ljava/lang/String;IJLjava/lang/String;)V"⟩ : MethodName) (head1 (Jvm.Cond.code (⟨"com/example/nestwarden/nestwarden/node/Run", "<init>", "(Ljava/lang/String;Ljava/lang/String;IJLjava/lang/String;)V"⟩ : MethodName) prog_45_method_1_code 7 none :: ws) ({ frames := 2, cells := 0, slots := 0, locals := 24 } : Room)) (fun argv U => argv = #[(.ref a), (.ref s1), (.ref s2), (.int n), (.long d), (.ref s3)] ∧ Z.Warmed39 U.vm ∧ U.heap = h0) (fun _ _ _ _ _ => True) (fun _ U o U' => ∃ v L, o = .returned v ∧ own_Q1 Z a s1 s2 n d s3 u0 u1 u2 u3 u4 h0 n0 v U'.heap L ∧ FrameEnd U o U' L ({ frames := 2, cells := 0, slots := 0, locals := 24 } : Room).cells ({ frames := 2, cells := 0, slots := 0, locals := 24 } : Room).slots) := by
  refine MetFree.of_bodySF (plainFor_of_name own_pn1) hisR ?_
  intro p e s m args below meth c s₁ Bd hml0 hP hK
  obtain ⟨rfl, hZ, hh⟩ := hP
  have hx := Bd.exec
  have hby := Bd.bytes
  have hml : c.maxLocals = 7 := hml0
  have hown : s.vm.findClass "com/example/nestwarden/nestwarden/node/Run" = some m.cls := findClass_of_methodNamed Bd.named
  have hnm := (name_of_methodNamed Bd.named Bd.method).1
  have X0 : Stand p l e ({ frames := 2, cells := 0, slots := 0, locals := 24 } : Room) s m #[(.ref a), (.ref s1), (.ref s2), (.int n), (.long d), (.ref s3)] below meth c s₁ [] 0 0 := Stand.of_body Bd
  have e0 : s₁.heap = h0 := by rw [← hh, Bd.state]; rfl
  have N0 := Fr.nil n0
  have pre0 : ∀ t, Steps p.tables e below (s₁.setTop (mkF m 0 #[.val (.ref a), .val (.ref s1), .val (.ref s2), .val (.int n), .val (.long d), .second, .val (.ref s3)] [])) t → Steps p.tables e below (s₁.setTop (entryFrame m #[(.ref a), (.ref s1), (.ref s2), (.int n), (.long d), (.ref s3)] 7)) t := fun t k => castTop (own_ef1 m a s1 s2 n d s3) k
  have S2 : ∀ t, Steps p.tables e below (s₁.setTop (mkF m 1 #[.val (.ref a), .val (.ref s1), .val (.ref s2), .val (.int n), .val (.long d), .second, .val (.ref s3)] [(.ref a)])) t → Steps p.tables e below (s₁.setTop (entryFrame m #[(.ref a), (.ref s1), (.ref s2), (.int n), (.long d), (.ref s3)] 7)) t := fun t kt => by
    refine pre0 t ?_
    show Steps p.tables e below (s₁.setTop (mkF m 0 #[.val (.ref a), .val (.ref s1), .val (.ref s2), .val (.int n), .val (.long d), .second, .val (.ref s3)] [])) t
    refine XS.aloadN X0.here hx rfl (hb hby own_d1_0) rfl rfl ?_
    exact kt
  obtain ⟨_, _, ⟨T3, L3, k3, n3⟩, -, X3, ⟨Lc3, hQ3, l3, y3, z3⟩, st3⟩ := X0.specialBack hx (y := (⟨"java/lang/Record", "<init>", "()V"⟩ : MethodName)) rfl hown (mvT hZ (hw _ (List.mem_of_getElem? (i := 16) rfl))) (mvT hZ (hw _ (List.mem_of_getElem? (i := 17) rfl))) (mvT hZ (hw _ (List.mem_of_getElem? (i := 20) rfl))) (by decide) (backOf (W := 0) (own_rm2 l Z a0 hw [] (a) h0 n0 Z0) hZ (hw _ (List.mem_of_getElem? (i := 20) rfl)) (hw _ (List.mem_of_getElem? (i := 19) rfl)) (by decide) (by decide)) (g := (mkF m 1 #[.val (.ref a), .val (.ref s1), .val (.ref s2), .val (.int n), .val (.long d), .second, .val (.ref s3)] [(.ref a)])) rfl (by rw [hml]; rfl) (Steps.refl _) (a := a) (argsL := []) (rest := []) (lenOf own_pd0 rfl) rfl (by show 2 * 0 + _ ≤ _; exact Nat.le_of_eq rfl) (hb hby own_d1_1) (fun _ _ => ⟨rfl, e0, (by decide : 0 + 0 ≤ _), (by decide : 0 + 0 ≤ _)⟩)
  dsimp only [Pt.U, Pt.locs, Pt.cells, Pt.slots] at X3 l3 y3 z3 st3 hQ3
  subst l3 y3 z3
  obtain ⟨rfl, rfl, eq1⟩ := hQ3
  try rw [List.append_nil] at X3
  have S4 : ∀ t, Steps p.tables e below (T3.setTop (mkF m 4 #[.val (.ref a), .val (.ref s1), .val (.ref s2), .val (.int n), .val (.long d), .second, .val (.ref s3)] [])) t → Steps p.tables e below (s₁.setTop (entryFrame m #[(.ref a), (.ref s1), (.ref s2), (.int n), (.long d), (.ref s3)] 7)) t := fun t kt => S2 t (st3.trans kt)
  have S5 : ∀ t, Steps p.tables e below (T3.setTop (mkF m 6 #[.val (.ref a), .val (.ref s1), .val (.ref s2), .val (.int n), .val (.long d), .second, .val (.ref s3)] [(.ref s1), (.ref a)])) t → Steps p.tables e below (s₁.setTop (entryFrame m #[(.ref a), (.ref s1), (.ref s2), (.int n), (.long d), (.ref s3)] 7)) t := fun t kt => by
    refine S4 t ?_
    show Steps p.tables e below (T3.setTop (mkF m 4 #[.val (.ref a), .val (.ref s1), .val (.ref s2), .val (.int n), .val (.long d), .second, .val (.ref s3)] [])) t
    refine XS.aloadN X3.here hx rfl (hb hby own_d1_4) rfl rfl ?_
    show Steps p.tables e below (T3.setTop (mkF m 5 #[.val (.ref a), .val (.ref s1), .val (.ref s2), .val (.int n), .val (.long d), .second, .val (.ref s3)] [(.ref a)])) t
    refine XS.aloadN X3.here hx rfl (hb hby own_d1_5) rfl rfl ?_
    exact kt
  obtain ⟨T6, h6, X6, e6, W6, st6⟩ := putF X3 hx hZ hown (host := "") (Or.inl (hw _ (List.mem_of_getElem? (i := 24) rfl))) Via.refl eq1 F_id E_a (Or.inr ⟨(hw _ (List.mem_of_getElem? (i := 25) rfl)), rfl, hnm⟩) (hw _ (List.mem_of_getElem? (i := 1) rfl)) (ty := (.object "java/lang/String")) (by decide) rfl rfl (g := (mkF m 6 #[.val (.ref a), .val (.ref s1), .val (.ref s2), .val (.int n), .val (.long d), .second, .val (.ref s3)] [(.ref s1), (.ref a)])) rfl rfl (hb hby own_d1_6)
  have S7 : ∀ t, Steps p.tables e below (T6.setTop (mkF m 9 #[.val (.ref a), .val (.ref s1), .val (.ref s2), .val (.int n), .val (.long d), .second, .val (.ref s3)] [])) t → Steps p.tables e below (s₁.setTop (entryFrame m #[(.ref a), (.ref s1), (.ref s2), (.int n), (.long d), (.ref s3)] 7)) t := fun t kt => S5 t (st6 _ kt)
  have F8 := E_a.wr W6
  have F9 := F_id.same W6
  have F10 := F_name.other W6 (Or.inr (slot_ne (Or.inr (hw _ (List.mem_of_getElem? (i := 27) rfl))) (Or.inr (hw _ (List.mem_of_getElem? (i := 25) rfl))) (by decide) (t := (.object "java/lang/String")) (t' := (.object "java/lang/String")) (by decide) (by decide)))
  have F11 := F_timeoutMs.other W6 (Or.inr (slot_ne (Or.inr (hw _ (List.mem_of_getElem? (i := 29) rfl))) (Or.inr (hw _ (List.mem_of_getElem? (i := 25) rfl))) (by decide) (t := .int) (t' := (.object "java/lang/String")) (by decide) (by decide)))
  have F12 := F_decideBy.other W6 (Or.inr (slot_ne (Or.inr (hw _ (List.mem_of_getElem? (i := 31) rfl))) (Or.inr (hw _ (List.mem_of_getElem? (i := 25) rfl))) (by decide) (t := .long) (t' := (.object "java/lang/String")) (by decide) (by decide)))
  have F13 := F_root.other W6 (Or.inr (slot_ne (Or.inr (hw _ (List.mem_of_getElem? (i := 33) rfl))) (Or.inr (hw _ (List.mem_of_getElem? (i := 25) rfl))) (by decide) (t := (.object "java/lang/String")) (t' := (.object "java/lang/String")) (by decide) (by decide)))
  have N14 := Fr.snoc X6 N0 g_a
  have K15 : Keep h0 h6 [a] := (Keep.refl h0 [a]).wr W6 (Or.inl (List.mem_of_getElem? (i := 0) rfl))
  have S16 : ∀ t, Steps p.tables e below (T6.setTop (mkF m 11 #[.val (.ref a), .val (.ref s1), .val (.ref s2), .val (.int n), .val (.long d), .second, .val (.ref s3)] [(.ref s2), (.ref a)])) t → Steps p.tables e below (s₁.setTop (entryFrame m #[(.ref a), (.ref s1), (.ref s2), (.int n), (.long d), (.ref s3)] 7)) t := fun t kt => by
    refine S7 t ?_
    show Steps p.tables e below (T6.setTop (mkF m 9 #[.val (.ref a), .val (.ref s1), .val (.ref s2), .val (.int n), .val (.long d), .second, .val (.ref s3)] [])) t
    refine XS.aloadN X6.here hx rfl (hb hby own_d1_9) rfl rfl ?_
    show Steps p.tables e below (T6.setTop (mkF m 10 #[.val (.ref a), .val (.ref s1), .val (.ref s2), .val (.int n), .val (.long d), .second, .val (.ref s3)] [(.ref a)])) t
    refine XS.aloadN X6.here hx rfl (hb hby own_d1_10) rfl rfl ?_
    exact kt
  obtain ⟨T17, h17, X17, e17, W17, st17⟩ := putF X6 hx hZ hown (host := "") (Or.inl (hw _ (List.mem_of_getElem? (i := 26) rfl))) Via.refl e6 F10 F8 (Or.inr ⟨(hw _ (List.mem_of_getElem? (i := 27) rfl)), rfl, hnm⟩) (hw _ (List.mem_of_getElem? (i := 1) rfl)) (ty := (.object "java/lang/String")) (by decide) rfl rfl (g := (mkF m 11 #[.val (.ref a), .val (.ref s1), .val (.ref s2), .val (.int n), .val (.long d), .second, .val (.ref s3)] [(.ref s2), (.ref a)])) rfl rfl (hb hby own_d1_11)
  have S18 : ∀ t, Steps p.tables e below (T17.setTop (mkF m 14 #[.val (.ref a), .val (.ref s1), .val (.ref s2), .val (.int n), .val (.long d), .second, .val (.ref s3)] [])) t → Steps p.tables e below (s₁.setTop (entryFrame m #[(.ref a), (.ref s1), (.ref s2), (.int n), (.long d), (.ref s3)] 7)) t := fun t kt => S16 t (st17 _ kt)
  have F19 := F8.wr W17
  have F20 := F9.other W17 (Or.inr (slot_ne (Or.inr (hw _ (List.mem_of_getElem? (i := 25) rfl))) (Or.inr (hw _ (List.mem_of_getElem? (i := 27) rfl))) (by decide) (t := (.object "java/lang/String")) (t' := (.object "java/lang/String")) (by decide) (by decide)))
  have F21 := F10.same W17
  have F22 := F11.other W17 (Or.inr (slot_ne (Or.inr (hw _ (List.mem_of_getElem? (i := 29) rfl))) (Or.inr (hw _ (List.mem_of_getElem? (i := 27) rfl))) (by decide) (t := .int) (t' := (.object "java/lang/String")) (by decide) (by decide)))
  have F23 := F12.other W17 (Or.inr (slot_ne (Or.inr (hw _ (List.mem_of_getElem? (i := 31) rfl))) (Or.inr (hw _ (List.mem_of_getElem? (i := 27) rfl))) (by decide) (t := .long) (t' := (.object "java/lang/String")) (by decide) (by decide)))
  have F24 := F13.other W17 (Or.inr (slot_ne (Or.inr (hw _ (List.mem_of_getElem? (i := 33) rfl))) (Or.inr (hw _ (List.mem_of_getElem? (i := 27) rfl))) (by decide) (t := (.object "java/lang/String")) (t' := (.object "java/lang/String")) (by decide) (by decide)))
  have N25 := Fr.snoc X17 N14 g_a
  have K26 : Keep h0 h17 [a] := K15.wr W17 (Or.inl (List.mem_of_getElem? (i := 0) rfl))
  have S27 : ∀ t, Steps p.tables e below (T17.setTop (mkF m 16 #[.val (.ref a), .val (.ref s1), .val (.ref s2), .val (.int n), .val (.long d), .second, .val (.ref s3)] [(.int n), (.ref a)])) t → Steps p.tables e below (s₁.setTop (entryFrame m #[(.ref a), (.ref s1), (.ref s2), (.int n), (.long d), (.ref s3)] 7)) t := fun t kt => by
    refine S18 t ?_
    show Steps p.tables e below (T17.setTop (mkF m 14 #[.val (.ref a), .val (.ref s1), .val (.ref s2), .val (.int n), .val (.long d), .second, .val (.ref s3)] [])) t
    refine XS.aloadN X17.here hx rfl (hb hby own_d1_14) rfl rfl ?_
    show Steps p.tables e below (T17.setTop (mkF m 15 #[.val (.ref a), .val (.ref s1), .val (.ref s2), .val (.int n), .val (.long d), .second, .val (.ref s3)] [(.ref a)])) t
    refine XS.iloadN X17.here hx rfl (hb hby own_d1_15) rfl ?_
    exact kt
  obtain ⟨T28, h28, X28, e28, W28, st28⟩ := putF X17 hx hZ hown (host := "") (Or.inl (hw _ (List.mem_of_getElem? (i := 28) rfl))) Via.refl e17 F22 F19 (Or.inr ⟨(hw _ (List.mem_of_getElem? (i := 29) rfl)), rfl, hnm⟩) (hw _ (List.mem_of_getElem? (i := 1) rfl)) (ty := .int) (by decide) rfl rfl (g := (mkF m 16 #[.val (.ref a), .val (.ref s1), .val (.ref s2), .val (.int n), .val (.long d), .second, .val (.ref s3)] [(.int n), (.ref a)])) rfl rfl (hb hby own_d1_16)
  have S29 : ∀ t, Steps p.tables e below (T28.setTop (mkF m 19 #[.val (.ref a), .val (.ref s1), .val (.ref s2), .val (.int n), .val (.long d), .second, .val (.ref s3)] [])) t → Steps p.tables e below (s₁.setTop (entryFrame m #[(.ref a), (.ref s1), (.ref s2), (.int n), (.long d), (.ref s3)] 7)) t := fun t kt => S27 t (st28 _ kt)
  have F30 := F19.wr W28
  have F31 := F20.other W28 (Or.inr (slot_ne (Or.inr (hw _ (List.mem_of_getElem? (i := 25) rfl))) (Or.inr (hw _ (List.mem_of_getElem? (i := 29) rfl))) (by decide) (t := (.object "java/lang/String")) (t' := .int) (by decide) (by decide)))
  have F32 := F21.other W28 (Or.inr (slot_ne (Or.inr (hw _ (List.mem_of_getElem? (i := 27) rfl))) (Or.inr (hw _ (List.mem_of_getElem? (i := 29) rfl))) (by decide) (t := (.object "java/lang/String")) (t' := .int) (by decide) (by decide)))
  have F33 := F22.same W28
  have F34 := F23.other W28 (Or.inr (slot_ne (Or.inr (hw _ (List.mem_of_getElem? (i := 31) rfl))) (Or.inr (hw _ (List.mem_of_getElem? (i := 29) rfl))) (by decide) (t := .long) (t' := .int) (by decide) (by decide)))
  have F35 := F24.other W28 (Or.inr (slot_ne (Or.inr (hw _ (List.mem_of_getElem? (i := 33) rfl))) (Or.inr (hw _ (List.mem_of_getElem? (i := 29) rfl))) (by decide) (t := (.object "java/lang/String")) (t' := .int) (by decide) (by decide)))
  have N36 := Fr.snoc X28 N25 g_a
  have K37 : Keep h0 h28 [a] := K26.wr W28 (Or.inl (List.mem_of_getElem? (i := 0) rfl))
  have S38 : ∀ t, Steps p.tables e below (T28.setTop (mkF m 22 #[.val (.ref a), .val (.ref s1), .val (.ref s2), .val (.int n), .val (.long d), .second, .val (.ref s3)] [(.long d), (.ref a)])) t → Steps p.tables e below (s₁.setTop (entryFrame m #[(.ref a), (.ref s1), (.ref s2), (.int n), (.long d), (.ref s3)] 7)) t := fun t kt => by
    refine S29 t ?_
    show Steps p.tables e below (T28.setTop (mkF m 19 #[.val (.ref a), .val (.ref s1), .val (.ref s2), .val (.int n), .val (.long d), .second, .val (.ref s3)] [])) t
    refine XS.aloadN X28.here hx rfl (hb hby own_d1_19) rfl rfl ?_
    show Steps p.tables e below (T28.setTop (mkF m 20 #[.val (.ref a), .val (.ref s1), .val (.ref s2), .val (.int n), .val (.long d), .second, .val (.ref s3)] [(.ref a)])) t
    refine XS.lload X28.here hx rfl (hb hby own_d1_20) rfl ?_
    exact kt
  obtain ⟨T39, h39, X39, e39, W39, st39⟩ := putF X28 hx hZ hown (host := "") (Or.inl (hw _ (List.mem_of_getElem? (i := 30) rfl))) Via.refl e28 F34 F30 (Or.inr ⟨(hw _ (List.mem_of_getElem? (i := 31) rfl)), rfl, hnm⟩) (hw _ (List.mem_of_getElem? (i := 1) rfl)) (ty := .long) (by decide) rfl rfl (g := (mkF m 22 #[.val (.ref a), .val (.ref s1), .val (.ref s2), .val (.int n), .val (.long d), .second, .val (.ref s3)] [(.long d), (.ref a)])) rfl rfl (hb hby own_d1_22)
  have S40 : ∀ t, Steps p.tables e below (T39.setTop (mkF m 25 #[.val (.ref a), .val (.ref s1), .val (.ref s2), .val (.int n), .val (.long d), .second, .val (.ref s3)] [])) t → Steps p.tables e below (s₁.setTop (entryFrame m #[(.ref a), (.ref s1), (.ref s2), (.int n), (.long d), (.ref s3)] 7)) t := fun t kt => S38 t (st39 _ kt)
  have F41 := F30.wr W39
  have F42 := F31.other W39 (Or.inr (slot_ne (Or.inr (hw _ (List.mem_of_getElem? (i := 25) rfl))) (Or.inr (hw _ (List.mem_of_getElem? (i := 31) rfl))) (by decide) (t := (.object "java/lang/String")) (t' := .long) (by decide) (by decide)))
  have F43 := F32.other W39 (Or.inr (slot_ne (Or.inr (hw _ (List.mem_of_getElem? (i := 27) rfl))) (Or.inr (hw _ (List.mem_of_getElem? (i := 31) rfl))) (by decide) (t := (.object "java/lang/String")) (t' := .long) (by decide) (by decide)))
  have F44 := F33.other W39 (Or.inr (slot_ne (Or.inr (hw _ (List.mem_of_getElem? (i := 29) rfl))) (Or.inr (hw _ (List.mem_of_getElem? (i := 31) rfl))) (by decide) (t := .int) (t' := .long) (by decide) (by decide)))
  have F45 := F34.same W39
  have F46 := F35.other W39 (Or.inr (slot_ne (Or.inr (hw _ (List.mem_of_getElem? (i := 33) rfl))) (Or.inr (hw _ (List.mem_of_getElem? (i := 31) rfl))) (by decide) (t := (.object "java/lang/String")) (t' := .long) (by decide) (by decide)))
  have N47 := Fr.snoc X39 N36 g_a
  have K48 : Keep h0 h39 [a] := K37.wr W39 (Or.inl (List.mem_of_getElem? (i := 0) rfl))
  have S49 : ∀ t, Steps p.tables e below (T39.setTop (mkF m 28 #[.val (.ref a), .val (.ref s1), .val (.ref s2), .val (.int n), .val (.long d), .second, .val (.ref s3)] [(.ref s3), (.ref a)])) t → Steps p.tables e below (s₁.setTop (entryFrame m #[(.ref a), (.ref s1), (.ref s2), (.int n), (.long d), (.ref s3)] 7)) t := fun t kt => by
    refine S40 t ?_
    show Steps p.tables e below (T39.setTop (mkF m 25 #[.val (.ref a), .val (.ref s1), .val (.ref s2), .val (.int n), .val (.long d), .second, .val (.ref s3)] [])) t
    refine XS.aloadN X39.here hx rfl (hb hby own_d1_25) rfl rfl ?_
    show Steps p.tables e below (T39.setTop (mkF m 26 #[.val (.ref a), .val (.ref s1), .val (.ref s2), .val (.int n), .val (.long d), .second, .val (.ref s3)] [(.ref a)])) t
    refine XS.aload X39.here hx rfl (hb hby own_d1_26) rfl rfl ?_
    exact kt
  obtain ⟨T50, h50, X50, e50, W50, st50⟩ := putF X39 hx hZ hown (host := "") (Or.inl (hw _ (List.mem_of_getElem? (i := 32) rfl))) Via.refl e39 F46 F41 (Or.inr ⟨(hw _ (List.mem_of_getElem? (i := 33) rfl)), rfl, hnm⟩) (hw _ (List.mem_of_getElem? (i := 1) rfl)) (ty := (.object "java/lang/String")) (by decide) rfl rfl (g := (mkF m 28 #[.val (.ref a), .val (.ref s1), .val (.ref s2), .val (.int n), .val (.long d), .second, .val (.ref s3)] [(.ref s3), (.ref a)])) rfl rfl (hb hby own_d1_28)
  have S51 : ∀ t, Steps p.tables e below (T50.setTop (mkF m 31 #[.val (.ref a), .val (.ref s1), .val (.ref s2), .val (.int n), .val (.long d), .second, .val (.ref s3)] [])) t → Steps p.tables e below (s₁.setTop (entryFrame m #[(.ref a), (.ref s1), (.ref s2), (.int n), (.long d), (.ref s3)] 7)) t := fun t kt => S49 t (st50 _ kt)
  have F52 := F41.wr W50
  have F53 := F42.other W50 (Or.inr (slot_ne (Or.inr (hw _ (List.mem_of_getElem? (i := 25) rfl))) (Or.inr (hw _ (List.mem_of_getElem? (i := 33) rfl))) (by decide) (t := (.object "java/lang/String")) (t' := (.object "java/lang/String")) (by decide) (by decide)))
  have F54 := F43.other W50 (Or.inr (slot_ne (Or.inr (hw _ (List.mem_of_getElem? (i := 27) rfl))) (Or.inr (hw _ (List.mem_of_getElem? (i := 33) rfl))) (by decide) (t := (.object "java/lang/String")) (t' := (.object "java/lang/String")) (by decide) (by decide)))
  have F55 := F44.other W50 (Or.inr (slot_ne (Or.inr (hw _ (List.mem_of_getElem? (i := 29) rfl))) (Or.inr (hw _ (List.mem_of_getElem? (i := 33) rfl))) (by decide) (t := .int) (t' := (.object "java/lang/String")) (by decide) (by decide)))
  have F56 := F45.other W50 (Or.inr (slot_ne (Or.inr (hw _ (List.mem_of_getElem? (i := 31) rfl))) (Or.inr (hw _ (List.mem_of_getElem? (i := 33) rfl))) (by decide) (t := .long) (t' := (.object "java/lang/String")) (by decide) (by decide)))
  have F57 := F46.same W50
  have N58 := Fr.snoc X50 N47 g_a
  have K59 : Keep h0 h50 [a] := K48.wr W50 (Or.inl (List.mem_of_getElem? (i := 0) rfl))
  obtain ⟨fs, hr, hrun, hended, hW, hsame⟩ := X50.leave (v := none) (fun _ => rfl)
  refine ⟨_, _, S51 _ ?_, hrun, hended, _, _, rfl, ?_, ⟨_, rfl⟩, hW, hsame.mono (by decide) (by decide)⟩
  · show Steps p.tables e below (T50.setTop (mkF m 31 #[.val (.ref a), .val (.ref s1), .val (.ref s2), .val (.int n), .val (.long d), .second, .val (.ref s3)] [])) _
    exact X50.returnOut hx Bd.returns (hb hby own_d1_31) hr
  · show own_Q1 Z a s1 s2 n d s3 u0 u1 u2 u3 u4 h0 n0 _ T50.heap _
    rw [e50]
    exact ⟨rfl, N58, K59, F52, F53, F54, F55, F56, F57⟩
theorem own_d4_0 : decode prog_45_method_2_code 0 = .ok (.lload_n 1, 1) := by decide +kernel
theorem own_d4_1 : decode prog_45_method_2_code 1 = .ok (.aload_n 0, 1) := by decide +kernel
theorem own_d4_2 : decode prog_45_method_2_code 2 = .ok (.getfield 16, 3) := by decide +kernel
theorem own_d4_5 : decode prog_45_method_2_code 5 = .ok (.i2l, 1) := by decide +kernel
theorem own_d4_6 : decode prog_45_method_2_code 6 = .ok (.ldc2_w 27, 3) := by decide +kernel
theorem own_d4_9 : decode prog_45_method_2_code 9 = .ok (.lmul, 1) := by decide +kernel
theorem own_d4_10 : decode prog_45_method_2_code 10 = .ok (.ladd, 1) := by decide +kernel
theorem own_d4_11 : decode prog_45_method_2_code 11 = .ok (.lreturn, 1) := by decide +kernel
theorem own_ef4 (m : MethodId) (x0 : Addr) (x1 : Int64) : entryFrame m #[(.ref x0), (.long x1)] 3 = mkF m 0 #[.val (.ref x0), .val (.long x1), .second] [] := by first | (simp [entryFrame, mkF, argsToLocals, Value.category]; done) | rfl
def own_Q4 (Z : State) (a : Addr) (f : Int64) (tm : Int32) (h0 : Heap) (n0 : Nat) (v : Option Value) (h : Heap) (L : List Loc) : Prop := v = some (.long (f + ((tm.toInt64) * (1000000 : Int64)))) ∧ L = [] ∧ h = h0
set_option maxHeartbeats 40000000 in
theorem own_rm4 (l : Launch) (Z : State) (a0 : Array Value) (hw : ∀ d ∈ tables_1, d.before a0 Z = true) (ws : List Jvm.Cond) (a : Addr) (f : Int64) (tm : Int32) (h0 : Heap) (n0 : Nat) (Z0 : n0 ≤ h0.size) (F_tm : Fld Z h0 a "com/example/nestwarden/nestwarden/node/Run" "timeoutMs" "I" (.int tm)) :
    MetFree l (⟨"com/example/nestwarden/nestwarden/node/Run", "deadline", "(J)J"⟩ : MethodName) (head1 (Jvm.Cond.code (⟨"com/example/nestwarden/nestwarden/node/Run", "deadline", "(J)J"⟩ : MethodName) prog_45_method_2_code 3 (some .long) :: ws) ({ frames := 0, cells := 0, slots := 0, locals := 0 } : Room)) (fun argv U => argv = #[(.ref a), (.long f)] ∧ Z.Warmed39 U.vm ∧ U.heap = h0) (fun _ _ _ _ _ => True) (fun _ U o U' => ∃ v L, o = .returned v ∧ own_Q4 Z a f tm h0 n0 v U'.heap L ∧ FrameEnd U o U' L ({ frames := 0, cells := 0, slots := 0, locals := 0 } : Room).cells ({ frames := 0, cells := 0, slots := 0, locals := 0 } : Room).slots) := by
  refine MetFree.of_bodySF (plainFor_of_name own_pn1) hisR ?_
  intro p e s m args below meth c s₁ Bd hml0 hP hK
  obtain ⟨rfl, hZ, hh⟩ := hP
  have hx := Bd.exec
  have hby := Bd.bytes
  have hml : c.maxLocals = 3 := hml0
  have hown : s.vm.findClass "com/example/nestwarden/nestwarden/node/Run" = some m.cls := findClass_of_methodNamed Bd.named
  have hnm := (name_of_methodNamed Bd.named Bd.method).1
  have X0 : Stand p l e ({ frames := 0, cells := 0, slots := 0, locals := 0 } : Room) s m #[(.ref a), (.long f)] below meth c s₁ [] 0 0 := Stand.of_body Bd
  have e0 : s₁.heap = h0 := by rw [← hh, Bd.state]; rfl
  have N0 := Fr.nil n0
  have pre0 : ∀ t, Steps p.tables e below (s₁.setTop (mkF m 0 #[.val (.ref a), .val (.long f), .second] [])) t → Steps p.tables e below (s₁.setTop (entryFrame m #[(.ref a), (.long f)] 3)) t := fun t k => castTop (own_ef4 m a f) k
  have S1 : ∀ t, Steps p.tables e below (s₁.setTop (mkF m 2 #[.val (.ref a), .val (.long f), .second] [(.ref a), (.long f)])) t → Steps p.tables e below (s₁.setTop (entryFrame m #[(.ref a), (.long f)] 3)) t := fun t kt => by
    refine pre0 t ?_
    show Steps p.tables e below (s₁.setTop (mkF m 0 #[.val (.ref a), .val (.long f), .second] [])) t
    refine XS.lloadN X0.here hx rfl (hb hby own_d4_0) rfl ?_
    show Steps p.tables e below (s₁.setTop (mkF m 1 #[.val (.ref a), .val (.long f), .second] [(.long f)])) t
    refine XS.aloadN X0.here hx rfl (hb hby own_d4_1) rfl rfl ?_
    exact kt
  obtain ⟨T2, X2, e2, st2⟩ := getF X0 hx hZ hown (host := "") (Or.inl (hw _ (List.mem_of_getElem? (i := 28) rfl))) Via.refl e0 F_tm (g := (mkF m 2 #[.val (.ref a), .val (.long f), .second] [(.ref a), (.long f)])) rfl rfl (hb hby own_d4_2)
  have S3 : ∀ t, Steps p.tables e below (T2.setTop (mkF m 5 #[.val (.ref a), .val (.long f), .second] [(.int tm), (.long f)])) t → Steps p.tables e below (s₁.setTop (entryFrame m #[(.ref a), (.long f)] 3)) t := fun t kt => S1 t (st2 _ kt)
  have S4 : ∀ t, Steps p.tables e below (T2.setTop (mkF m 11 #[.val (.ref a), .val (.long f), .second] [(.long (f + ((tm.toInt64) * (1000000 : Int64))))])) t → Steps p.tables e below (s₁.setTop (entryFrame m #[(.ref a), (.long f)] 3)) t := fun t kt => by
    refine S3 t ?_
    show Steps p.tables e below (T2.setTop (mkF m 5 #[.val (.ref a), .val (.long f), .second] [(.int tm), (.long f)])) t
    refine XS.i2l X2.here hx rfl (hb hby own_d4_5) rfl ?_
    show Steps p.tables e below (T2.setTop (mkF m 6 #[.val (.ref a), .val (.long f), .second] [(.long (tm.toInt64)), (.long f)])) t
    refine X2.ldc2Long hx hown (mvT hZ (hw _ (List.mem_of_getElem? (i := 40) rfl))) (g := (mkF m 6 #[.val (.ref a), .val (.long f), .second] [(.long (tm.toInt64)), (.long f)])) rfl (hb hby own_d4_6) _ ?_
    show Steps p.tables e below (T2.setTop (mkF m 9 #[.val (.ref a), .val (.long f), .second] [(.long (1000000 : Int64)), (.long (tm.toInt64)), (.long f)])) t
    refine XS.lmul X2.here hx rfl (hb hby own_d4_9) rfl ?_
    show Steps p.tables e below (T2.setTop (mkF m 10 #[.val (.ref a), .val (.long f), .second] [(.long ((tm.toInt64) * (1000000 : Int64))), (.long f)])) t
    refine XS.ladd X2.here hx rfl (hb hby own_d4_10) rfl ?_
    exact kt
  obtain ⟨fs, hr, hrun, hended, hW, hsame⟩ := X2.leave (v := some (.long (f + ((tm.toInt64) * (1000000 : Int64))))) (fun h => by rw [Bd.returns] at h; cases h)
  refine ⟨_, _, S4 _ ?_, hrun, hended, _, _, rfl, ?_, ⟨_, rfl⟩, hW, hsame.mono (by decide) (by decide)⟩
  · show Steps p.tables e below (T2.setTop (mkF m 11 #[.val (.ref a), .val (.long f), .second] [(.long (f + ((tm.toInt64) * (1000000 : Int64))))])) _
    exact X2.lreturnOut hx Bd.returns (hb hby own_d4_11) hr
  · show own_Q4 Z a f tm h0 n0 _ T2.heap _
    rw [e2]
    exact ⟨rfl, rfl, rfl⟩
theorem own_pd1 : parseMethodDescriptor "(Ljava/lang/String;Ljava/lang/String;IJLjava/lang/String;)V" = some ⟨[(.object "java/lang/String"), (.object "java/lang/String"), .int, .long, (.object "java/lang/String")], none⟩ := by decide +kernel
theorem own_pd2 : parseMethodDescriptor "(J)J" = some ⟨[.long], some .long⟩ := by decide +kernel
theorem own_ef0 (m : MethodId) (x0 : Int64) (x1 : Int32) (x2 : Int64) : entryFrame m #[(.long x0), (.int x1), (.long x2)] maxLocals = mkF m 0 #[.val (.long x0), .second, .val (.int x1), .val (.long x2), .second, .unset, .unset, .unset, .unset, .unset, .unset, .unset] [] := by first | (simp [entryFrame, mkF, argsToLocals, Value.category, maxLocals]; done) | rfl
def own_Q0 (Z : State) (f : Int64) (tm : Int32) (db : Int64) (h0 : Heap) (n0 : Nat) (v : Option Value) (h : Heap) (L : List Loc) : Prop := v = some (.int (1 : Int32)) ∧ Fr n0 L
theorem own_pn2 : plainName "com/example/nestwarden/nestwarden/node/RunDeadlinePinLaw" = true := by first | (simp [plainName, overriddenIn]; done) | decide +kernel
set_option maxHeartbeats 40000000 in
theorem own_rm0 (l : Launch) (Z : State) (a0 : Array Value) (hw : ∀ d ∈ tables_1, d.before a0 Z = true) (ws : List Jvm.Cond) (f : Int64) (tm : Int32) (db : Int64) (h0 : Heap) (n0 : Nat) (Z0 : n0 ≤ h0.size) :
    MetFree l x (head1 (Jvm.Cond.code x code maxLocals ret :: ws) room_1) (fun argv U => argv = #[(.long f), (.int tm), (.long db)] ∧ Z.Warmed39 U.vm ∧ U.heap = h0) (fun _ _ _ _ _ => True) (fun _ U o U' => ∃ v L, o = .returned v ∧ own_Q0 Z f tm db h0 n0 v U'.heap L ∧ ReturnedEndW U o U' L room_1.cells room_1.slots) := by
  refine MetFree.of_bodySF (plainFor_of_name own_pn2) hisR ?_
  intro p e s m args below meth c s₁ Bd hml0 hP hK
  obtain ⟨rfl, hZ, hh⟩ := hP
  have hx := Bd.exec
  have hby := Bd.bytes
  have hml : c.maxLocals = 12 := hml0
  have hown : s.vm.findClass "com/example/nestwarden/nestwarden/node/RunDeadlinePinLaw" = some m.cls := findClass_of_methodNamed Bd.named
  have hnm := (name_of_methodNamed Bd.named Bd.method).1
  have X0 : Stand p l e room_1 (s.setVm s.vm) m #[(.long f), (.int tm), (.long db)] below meth c s₁ [] 0 0 := Stand.of_body Bd
  have e0 : s₁.heap = h0 := by rw [← hh, Bd.state]; rfl
  have N0 := Fr.nil n0
  have pre0 : ∀ t, Steps p.tables e below (s₁.setTop (mkF m 0 #[.val (.long f), .second, .val (.int tm), .val (.long db), .second, .unset, .unset, .unset, .unset, .unset, .unset, .unset] [])) t → Steps p.tables e below (s₁.setTop (entryFrame m #[(.long f), (.int tm), (.long db)] maxLocals)) t := fun t k => castTop (own_ef0 m f tm db) k
  have hS0 : s.Since s.vm h0.size := (State.WarmedH.refl s).since _
  have wS := own_wS hw
  obtain ⟨T1, h1, X1, e1, E1, A1, D1, -, st1⟩ := newO X0 hx hZ hown (hw _ (List.mem_of_getElem? (i := 0) rfl)) (hw _ (List.mem_of_getElem? (i := 1) rfl)) (hw _ (List.mem_of_getElem? (i := 2) rfl)) e0 (g := (mkF m 0 #[.val (.long f), .second, .val (.int tm), .val (.long db), .second, .unset, .unset, .unset, .unset, .unset, .unset, .unset] [])) rfl (hb hby at_0) (by decide) (by decide)
  obtain ⟨b1, g1⟩ : ∃ z, z = h0.size := ⟨_, rfl⟩
  rw [← g1] at A1 D1 st1
  have S2 : ∀ t, Steps p.tables e below (T1.setTop (mkF m 3 #[.val (.long f), .second, .val (.int tm), .val (.long db), .second, .unset, .unset, .unset, .unset, .unset, .unset, .unset] [(.ref b1)])) t → Steps p.tables e below (s₁.setTop (entryFrame m #[(.long f), (.int tm), (.long db)] maxLocals)) t := fun t kt => pre0 t (st1 _ kt)
  have g_b1 : n0 ≤ b1 := Nat.le_trans Z0 (Nat.le_of_eq g1.symm)
  have sz_b1 : h0.size ≤ b1 := Nat.le_trans (Keep.refl h0 []).1 (Nat.le_of_eq g1.symm)
  have K3 : Keep h0 h1 [] := (Keep.refl h0 []).ext E1
  have F4 : Fld Z h1 b1 "com/example/nestwarden/nestwarden/node/Run" "id" "Ljava/lang/String;" .null := D1 (Or.inr (hw _ (List.mem_of_getElem? (i := 25) rfl))) (ty := (.object "java/lang/String")) (by decide)
  have F5 : Fld Z h1 b1 "com/example/nestwarden/nestwarden/node/Run" "name" "Ljava/lang/String;" .null := D1 (Or.inr (hw _ (List.mem_of_getElem? (i := 27) rfl))) (ty := (.object "java/lang/String")) (by decide)
  have F6 : Fld Z h1 b1 "com/example/nestwarden/nestwarden/node/Run" "timeoutMs" "I" (.int (0 : Int32)) := D1 (Or.inr (hw _ (List.mem_of_getElem? (i := 29) rfl))) (ty := .int) (by decide)
  have F7 : Fld Z h1 b1 "com/example/nestwarden/nestwarden/node/Run" "decideBy" "J" (.long (0 : Int64)) := D1 (Or.inr (hw _ (List.mem_of_getElem? (i := 31) rfl))) (ty := .long) (by decide)
  have F8 : Fld Z h1 b1 "com/example/nestwarden/nestwarden/node/Run" "root" "Ljava/lang/String;" .null := D1 (Or.inr (hw _ (List.mem_of_getElem? (i := 33) rfl))) (ty := (.object "java/lang/String")) (by decide)
  have S9 : ∀ t, Steps p.tables e below (T1.setTop (mkF m 4 #[.val (.long f), .second, .val (.int tm), .val (.long db), .second, .unset, .unset, .unset, .unset, .unset, .unset, .unset] [(.ref b1), (.ref b1)])) t → Steps p.tables e below (s₁.setTop (entryFrame m #[(.long f), (.int tm), (.long db)] maxLocals)) t := fun t kt => by
    refine S2 t ?_
    show Steps p.tables e below (T1.setTop (mkF m 3 #[.val (.long f), .second, .val (.int tm), .val (.long db), .second, .unset, .unset, .unset, .unset, .unset, .unset, .unset] [(.ref b1)])) t
    refine XS.dup X1.here hx rfl (hb hby at_3) rfl rfl ?_
    exact kt
  obtain ⟨lit10, T10, h10, k10, X10, e10, E10, hS10, hk10, hZ10, ho10, st10⟩ := ldcS X1 hx hZ hown (hw _ (List.mem_of_getElem? (i := 3) rfl)) wS e1 hS0 (Nat.le_trans (Nat.le_refl _) E1.1) (g := (mkF m 4 #[.val (.long f), .second, .val (.int tm), .val (.long db), .second, .unset, .unset, .unset, .unset, .unset, .unset, .unset] [(.ref b1), (.ref b1)])) rfl (hb hby at_4) (n := 8) (by decide) (by decide) (by decide) (by decide)
  have S11 : ∀ t, Steps p.tables e below (T10.setTop (mkF m 6 #[.val (.long f), .second, .val (.int tm), .val (.long db), .second, .unset, .unset, .unset, .unset, .unset, .unset, .unset] [(.ref lit10), (.ref b1), (.ref b1)])) t → Steps p.tables e below (s₁.setTop (entryFrame m #[(.long f), (.int tm), (.long db)] maxLocals)) t := fun t kt => S9 t (st10 _ kt)
  have F12 := A1.ext E10
  have F13 := F4.ext E10
  have F14 := F5.ext E10
  have F15 := F6.ext E10
  have F16 := F7.ext E10
  have F17 := F8.ext E10
  have K18 : Keep h0 h10 [] := K3.ext E10
  obtain ⟨lit19, T19, h19, k19, X19, e19, E19, hS19, hk19, hZ19, ho19, st19⟩ := ldcS X10 hx hZ10 ho10 (hw _ (List.mem_of_getElem? (i := 11) rfl)) wS e10 hS10 hk10 (g := (mkF m 6 #[.val (.long f), .second, .val (.int tm), .val (.long db), .second, .unset, .unset, .unset, .unset, .unset, .unset, .unset] [(.ref lit10), (.ref b1), (.ref b1)])) rfl (hb hby at_6) (n := 16) (by decide) (by decide) (by decide) (by decide)
  have S20 : ∀ t, Steps p.tables e below (T19.setTop (mkF m 8 #[.val (.long f), .second, .val (.int tm), .val (.long db), .second, .unset, .unset, .unset, .unset, .unset, .unset, .unset] [(.ref lit19), (.ref lit10), (.ref b1), (.ref b1)])) t → Steps p.tables e below (s₁.setTop (entryFrame m #[(.long f), (.int tm), (.long db)] maxLocals)) t := fun t kt => S11 t (st19 _ kt)
  have F21 := F12.ext E19
  have F22 := F13.ext E19
  have F23 := F14.ext E19
  have F24 := F15.ext E19
  have F25 := F16.ext E19
  have F26 := F17.ext E19
  have K27 : Keep h0 h19 [] := K18.ext E19
  have S28 : ∀ t, Steps p.tables e below (T19.setTop (mkF m 10 #[.val (.long f), .second, .val (.int tm), .val (.long db), .second, .unset, .unset, .unset, .unset, .unset, .unset, .unset] [(.long db), (.int tm), (.ref lit19), (.ref lit10), (.ref b1), (.ref b1)])) t → Steps p.tables e below (s₁.setTop (entryFrame m #[(.long f), (.int tm), (.long db)] maxLocals)) t := fun t kt => by
    refine S20 t ?_
    show Steps p.tables e below (T19.setTop (mkF m 8 #[.val (.long f), .second, .val (.int tm), .val (.long db), .second, .unset, .unset, .unset, .unset, .unset, .unset, .unset] [(.ref lit19), (.ref lit10), (.ref b1), (.ref b1)])) t
    refine XS.iloadN X19.here hx rfl (hb hby at_8) rfl ?_
    show Steps p.tables e below (T19.setTop (mkF m 9 #[.val (.long f), .second, .val (.int tm), .val (.long db), .second, .unset, .unset, .unset, .unset, .unset, .unset, .unset] [(.int tm), (.ref lit19), (.ref lit10), (.ref b1), (.ref b1)])) t
    refine XS.lloadN X19.here hx rfl (hb hby at_9) rfl ?_
    exact kt
  obtain ⟨lit29, T29, h29, k29, X29, e29, E29, hS29, hk29, hZ29, ho29, st29⟩ := ldcS X19 hx hZ19 ho19 (hw _ (List.mem_of_getElem? (i := 12) rfl)) wS e19 hS19 hk19 (g := (mkF m 10 #[.val (.long f), .second, .val (.int tm), .val (.long db), .second, .unset, .unset, .unset, .unset, .unset, .unset, .unset] [(.long db), (.int tm), (.ref lit19), (.ref lit10), (.ref b1), (.ref b1)])) rfl (hb hby at_10) (n := 16) (by decide) (by decide) (by decide) (by decide)
  have S30 : ∀ t, Steps p.tables e below (T29.setTop (mkF m 12 #[.val (.long f), .second, .val (.int tm), .val (.long db), .second, .unset, .unset, .unset, .unset, .unset, .unset, .unset] [(.ref lit29), (.long db), (.int tm), (.ref lit19), (.ref lit10), (.ref b1), (.ref b1)])) t → Steps p.tables e below (s₁.setTop (entryFrame m #[(.long f), (.int tm), (.long db)] maxLocals)) t := fun t kt => S28 t (st29 _ kt)
  have F31 := F21.ext E29
  have F32 := F22.ext E29
  have F33 := F23.ext E29
  have F34 := F24.ext E29
  have F35 := F25.ext E29
  have F36 := F26.ext E29
  have K37 : Keep h0 h29 [] := K27.ext E29
  obtain ⟨_, _, ⟨T40, L40, k40, n40⟩, -, X40, ⟨Lc40, hQ40, l40, y40, z40⟩, st40⟩ := X29.specialBack hx (y := (⟨"com/example/nestwarden/nestwarden/node/Run", "<init>", "(Ljava/lang/String;Ljava/lang/String;IJLjava/lang/String;)V"⟩ : MethodName)) rfl ho29 (mvT hZ29 (hw _ (List.mem_of_getElem? (i := 13) rfl))) (mvT hZ29 (hw _ (List.mem_of_getElem? (i := 14) rfl))) (mvT hZ29 (hw _ (List.mem_of_getElem? (i := 15) rfl))) (by decide) (backOf (W := 1) (own_rm1 l Z a0 hw [] (b1) (lit10) (lit19) (tm) (db) (lit29) (.null) (.null) ((.int (0 : Int32))) ((.long (0 : Int64))) (.null) h29 n0 (Nat.le_trans Z0 K37.1) F31 g_b1 F32 F33 F34 F35 F36) hZ29 (hw _ (List.mem_of_getElem? (i := 15) rfl)) (hw _ (List.mem_of_getElem? (i := 2) rfl)) (by decide) (by decide)) (g := (mkF m 12 #[.val (.long f), .second, .val (.int tm), .val (.long db), .second, .unset, .unset, .unset, .unset, .unset, .unset, .unset] [(.ref lit29), (.long db), (.int tm), (.ref lit19), (.ref lit10), (.ref b1), (.ref b1)])) rfl (by rw [hml]; rfl) (Steps.refl _) (a := b1) (argsL := [(.ref lit10), (.ref lit19), (.int tm), (.long db), (.ref lit29)]) (rest := [(.ref b1)]) (lenOf own_pd1 rfl) rfl (by show 2 * 0 + _ ≤ _; exact Nat.le_of_eq rfl) (hb hby at_12) (fun _ _ => ⟨rfl, e29, (by decide : 7 + 0 ≤ _), (by decide : 57 + 0 ≤ _)⟩)
  dsimp only [Pt.U, Pt.locs, Pt.cells, Pt.slots] at X40 l40 y40 z40 st40 hQ40
  subst l40 y40 z40
  obtain ⟨rfl, Nq40, Kc38, Ec38, Fc38_id, Fc38_name, Fc38_timeoutMs, Fc38_decideBy, Fc38_root⟩ := hQ40
  have N41 := Fr.app N0 Nq40
  have S42 : ∀ t, Steps p.tables e below (T40.setTop (mkF m 15 #[.val (.long f), .second, .val (.int tm), .val (.long db), .second, .unset, .unset, .unset, .unset, .unset, .unset, .unset] [(.ref b1)])) t → Steps p.tables e below (s₁.setTop (entryFrame m #[(.long f), (.int tm), (.long db)] maxLocals)) t := fun t kt => S30 t (st40.trans kt)
  have F43 := F31.keep Kc38
  have K44 : Keep h0 T40.heap [] := K37.trans Kc38 (allS (Or.inr sz_b1) all0)
  have S46 : ∀ t, Steps p.tables e below (T40.setTop (mkF m 32 #[.val (.long f), .second, .val (.int tm), .val (.long db), .second, .val (.ref b1), .val (.long (((tm.toInt64) * (1000 : Int64)) * (1000 : Int64))), .second, .unset, .unset, .unset, .unset] [(.long (0 : Int64)), (.ref b1)])) t → Steps p.tables e below (s₁.setTop (entryFrame m #[(.long f), (.int tm), (.long db)] maxLocals)) t := fun t kt => by
    refine S42 t ?_
    show Steps p.tables e below (T40.setTop (mkF m 15 #[.val (.long f), .second, .val (.int tm), .val (.long db), .second, .unset, .unset, .unset, .unset, .unset, .unset, .unset] [(.ref b1)])) t
    refine XS.astore X40.here hx rfl (hb hby at_15) rfl rfl (l' := #[.val (.long f), .second, .val (.int tm), .val (.long db), .second, .val (.ref b1), .unset, .unset, .unset, .unset, .unset, .unset]) rfl ?_
    show Steps p.tables e below (T40.setTop (mkF m 17 #[.val (.long f), .second, .val (.int tm), .val (.long db), .second, .val (.ref b1), .unset, .unset, .unset, .unset, .unset, .unset] [])) t
    refine XS.iloadN X40.here hx rfl (hb hby at_17) rfl ?_
    show Steps p.tables e below (T40.setTop (mkF m 18 #[.val (.long f), .second, .val (.int tm), .val (.long db), .second, .val (.ref b1), .unset, .unset, .unset, .unset, .unset, .unset] [(.int tm)])) t
    refine XS.i2l X40.here hx rfl (hb hby at_18) rfl ?_
    show Steps p.tables e below (T40.setTop (mkF m 19 #[.val (.long f), .second, .val (.int tm), .val (.long db), .second, .val (.ref b1), .unset, .unset, .unset, .unset, .unset, .unset] [(.long (tm.toInt64))])) t
    refine X40.ldc2Long hx ho29 (mvT hZ29 (hw _ (List.mem_of_getElem? (i := 34) rfl))) (g := (mkF m 19 #[.val (.long f), .second, .val (.int tm), .val (.long db), .second, .val (.ref b1), .unset, .unset, .unset, .unset, .unset, .unset] [(.long (tm.toInt64))])) rfl (hb hby at_19) _ ?_
    show Steps p.tables e below (T40.setTop (mkF m 22 #[.val (.long f), .second, .val (.int tm), .val (.long db), .second, .val (.ref b1), .unset, .unset, .unset, .unset, .unset, .unset] [(.long (1000 : Int64)), (.long (tm.toInt64))])) t
    refine XS.lmul X40.here hx rfl (hb hby at_22) rfl ?_
    show Steps p.tables e below (T40.setTop (mkF m 23 #[.val (.long f), .second, .val (.int tm), .val (.long db), .second, .val (.ref b1), .unset, .unset, .unset, .unset, .unset, .unset] [(.long ((tm.toInt64) * (1000 : Int64)))])) t
    refine X40.ldc2Long hx ho29 (mvT hZ29 (hw _ (List.mem_of_getElem? (i := 34) rfl))) (g := (mkF m 23 #[.val (.long f), .second, .val (.int tm), .val (.long db), .second, .val (.ref b1), .unset, .unset, .unset, .unset, .unset, .unset] [(.long ((tm.toInt64) * (1000 : Int64)))])) rfl (hb hby at_23) _ ?_
    show Steps p.tables e below (T40.setTop (mkF m 26 #[.val (.long f), .second, .val (.int tm), .val (.long db), .second, .val (.ref b1), .unset, .unset, .unset, .unset, .unset, .unset] [(.long (1000 : Int64)), (.long ((tm.toInt64) * (1000 : Int64)))])) t
    refine XS.lmul X40.here hx rfl (hb hby at_26) rfl ?_
    show Steps p.tables e below (T40.setTop (mkF m 27 #[.val (.long f), .second, .val (.int tm), .val (.long db), .second, .val (.ref b1), .unset, .unset, .unset, .unset, .unset, .unset] [(.long (((tm.toInt64) * (1000 : Int64)) * (1000 : Int64)))])) t
    refine XS.lstore X40.here hx rfl (hb hby at_27) rfl (l' := #[.val (.long f), .second, .val (.int tm), .val (.long db), .second, .val (.ref b1), .val (.long (((tm.toInt64) * (1000 : Int64)) * (1000 : Int64))), .second, .unset, .unset, .unset, .unset]) rfl ?_
    show Steps p.tables e below (T40.setTop (mkF m 29 #[.val (.long f), .second, .val (.int tm), .val (.long db), .second, .val (.ref b1), .val (.long (((tm.toInt64) * (1000 : Int64)) * (1000 : Int64))), .second, .unset, .unset, .unset, .unset] [])) t
    refine XS.aload X40.here hx rfl (hb hby at_29) rfl rfl ?_
    show Steps p.tables e below (T40.setTop (mkF m 31 #[.val (.long f), .second, .val (.int tm), .val (.long db), .second, .val (.ref b1), .val (.long (((tm.toInt64) * (1000 : Int64)) * (1000 : Int64))), .second, .unset, .unset, .unset, .unset] [(.ref b1)])) t
    refine XS.lconst X40.here hx rfl (hb hby at_31) ?_
    exact kt
  obtain ⟨cq47, kq47, q47a, q47b, q47c⟩ := isOf hZ29 rfl F43
  obtain ⟨_, _, ⟨T47, L47, k47, n47⟩, -, X47, ⟨Lc47, hQ47, l47, y47, z47⟩, st47⟩ := X40.virtualBack hx (y := (⟨"com/example/nestwarden/nestwarden/node/Run", "deadline", "(J)J"⟩ : MethodName)) (z := (⟨"com/example/nestwarden/nestwarden/node/Run", "deadline", "(J)J"⟩ : MethodName)) ho29 (mvT hZ29 (hw _ (List.mem_of_getElem? (i := 35) rfl))) (mvT hZ29 (hw _ (List.mem_of_getElem? (i := 36) rfl))) (notFace_of_selects (args := #[]) (mvT hZ29 (hw _ (List.mem_of_getElem? (i := 38) rfl)))) (mvT hZ29 (hw _ (List.mem_of_getElem? (i := 38) rfl))) (mvT hZ29 (hw _ (List.mem_of_getElem? (i := 37) rfl))) (by decide) (backOf (W := 0) (own_rm4 l Z a0 hw [] (b1) ((0 : Int64)) (tm) T40.heap n0 (Nat.le_trans Z0 K44.1) Fc38_timeoutMs) hZ29 (hw _ (List.mem_of_getElem? (i := 39) rfl)) (hw _ (List.mem_of_getElem? (i := 2) rfl)) (by decide) (by decide)) q47a q47c (g := (mkF m 32 #[.val (.long f), .second, .val (.int tm), .val (.long db), .second, .val (.ref b1), .val (.long (((tm.toInt64) * (1000 : Int64)) * (1000 : Int64))), .second, .unset, .unset, .unset, .unset] [(.long (0 : Int64)), (.ref b1)])) rfl (by rw [hml]; rfl) (Steps.refl _) (argsL := [(.long (0 : Int64))]) (rest := []) (lenOf own_pd2 rfl) rfl (by show 2 * 0 + _ ≤ _; exact Nat.le_of_eq rfl) (hb hby at_32) (fun _ _ => ⟨rfl, rfl, (by decide : 7 + 0 ≤ _), (by decide : 57 + 0 ≤ _)⟩)
  dsimp only [Pt.U, Pt.locs, Pt.cells, Pt.slots] at X47 l47 y47 z47 st47 hQ47
  subst l47 y47 z47
  obtain ⟨rfl, rfl, eq45⟩ := hQ47
  try rw [List.append_nil] at X47
  have S48 : ∀ t, Steps p.tables e below (T47.setTop (mkF m 35 #[.val (.long f), .second, .val (.int tm), .val (.long db), .second, .val (.ref b1), .val (.long (((tm.toInt64) * (1000 : Int64)) * (1000 : Int64))), .second, .unset, .unset, .unset, .unset] [(.long ((0 : Int64) + ((tm.toInt64) * (1000000 : Int64))))])) t → Steps p.tables e below (s₁.setTop (entryFrame m #[(.long f), (.int tm), (.long db)] maxLocals)) t := fun t kt => S46 t (st47.trans kt)
  have S50 : ∀ t, Steps p.tables e below (T47.setTop (mkF m 40 #[.val (.long f), .second, .val (.int tm), .val (.long db), .second, .val (.ref b1), .val (.long (((tm.toInt64) * (1000 : Int64)) * (1000 : Int64))), .second, .val (.long ((0 : Int64) + ((tm.toInt64) * (1000000 : Int64)))), .second, .unset, .unset] [(.long f), (.ref b1)])) t → Steps p.tables e below (s₁.setTop (entryFrame m #[(.long f), (.int tm), (.long db)] maxLocals)) t := fun t kt => by
    refine S48 t ?_
    show Steps p.tables e below (T47.setTop (mkF m 35 #[.val (.long f), .second, .val (.int tm), .val (.long db), .second, .val (.ref b1), .val (.long (((tm.toInt64) * (1000 : Int64)) * (1000 : Int64))), .second, .unset, .unset, .unset, .unset] [(.long ((0 : Int64) + ((tm.toInt64) * (1000000 : Int64))))])) t
    refine XS.lstore X47.here hx rfl (hb hby at_35) rfl (l' := #[.val (.long f), .second, .val (.int tm), .val (.long db), .second, .val (.ref b1), .val (.long (((tm.toInt64) * (1000 : Int64)) * (1000 : Int64))), .second, .val (.long ((0 : Int64) + ((tm.toInt64) * (1000000 : Int64)))), .second, .unset, .unset]) rfl ?_
    show Steps p.tables e below (T47.setTop (mkF m 37 #[.val (.long f), .second, .val (.int tm), .val (.long db), .second, .val (.ref b1), .val (.long (((tm.toInt64) * (1000 : Int64)) * (1000 : Int64))), .second, .val (.long ((0 : Int64) + ((tm.toInt64) * (1000000 : Int64)))), .second, .unset, .unset] [])) t
    refine XS.aload X47.here hx rfl (hb hby at_37) rfl rfl ?_
    show Steps p.tables e below (T47.setTop (mkF m 39 #[.val (.long f), .second, .val (.int tm), .val (.long db), .second, .val (.ref b1), .val (.long (((tm.toInt64) * (1000 : Int64)) * (1000 : Int64))), .second, .val (.long ((0 : Int64) + ((tm.toInt64) * (1000000 : Int64)))), .second, .unset, .unset] [(.ref b1)])) t
    refine XS.lloadN X47.here hx rfl (hb hby at_39) rfl ?_
    exact kt
  obtain ⟨cq51, kq51, q51a, q51b, q51c⟩ := isOf hZ29 (eq45.trans rfl) F43
  obtain ⟨_, _, ⟨T51, L51, k51, n51⟩, -, X51, ⟨Lc51, hQ51, l51, y51, z51⟩, st51⟩ := X47.virtualBack hx (y := (⟨"com/example/nestwarden/nestwarden/node/Run", "deadline", "(J)J"⟩ : MethodName)) (z := (⟨"com/example/nestwarden/nestwarden/node/Run", "deadline", "(J)J"⟩ : MethodName)) ho29 (mvT hZ29 (hw _ (List.mem_of_getElem? (i := 35) rfl))) (mvT hZ29 (hw _ (List.mem_of_getElem? (i := 36) rfl))) (notFace_of_selects (args := #[]) (mvT hZ29 (hw _ (List.mem_of_getElem? (i := 38) rfl)))) (mvT hZ29 (hw _ (List.mem_of_getElem? (i := 38) rfl))) (mvT hZ29 (hw _ (List.mem_of_getElem? (i := 37) rfl))) (by decide) (backOf (W := 0) (own_rm4 l Z a0 hw [] (b1) (f) (tm) T40.heap n0 (Nat.le_trans Z0 K44.1) Fc38_timeoutMs) hZ29 (hw _ (List.mem_of_getElem? (i := 39) rfl)) (hw _ (List.mem_of_getElem? (i := 2) rfl)) (by decide) (by decide)) q51a q51c (g := (mkF m 40 #[.val (.long f), .second, .val (.int tm), .val (.long db), .second, .val (.ref b1), .val (.long (((tm.toInt64) * (1000 : Int64)) * (1000 : Int64))), .second, .val (.long ((0 : Int64) + ((tm.toInt64) * (1000000 : Int64)))), .second, .unset, .unset] [(.long f), (.ref b1)])) rfl (by rw [hml]; rfl) (Steps.refl _) (argsL := [(.long f)]) (rest := []) (lenOf own_pd2 rfl) rfl (by show 2 * 0 + _ ≤ _; exact Nat.le_of_eq rfl) (hb hby at_40) (fun _ _ => ⟨rfl, (eq45.trans rfl), (by decide : 7 + 0 ≤ _), (by decide : 57 + 0 ≤ _)⟩)
  dsimp only [Pt.U, Pt.locs, Pt.cells, Pt.slots] at X51 l51 y51 z51 st51 hQ51
  subst l51 y51 z51
  obtain ⟨rfl, rfl, eq49⟩ := hQ51
  try rw [List.append_nil] at X51
  have S52 : ∀ t, Steps p.tables e below (T51.setTop (mkF m 43 #[.val (.long f), .second, .val (.int tm), .val (.long db), .second, .val (.ref b1), .val (.long (((tm.toInt64) * (1000 : Int64)) * (1000 : Int64))), .second, .val (.long ((0 : Int64) + ((tm.toInt64) * (1000000 : Int64)))), .second, .unset, .unset] [(.long (f + ((tm.toInt64) * (1000000 : Int64))))])) t → Steps p.tables e below (s₁.setTop (entryFrame m #[(.long f), (.int tm), (.long db)] maxLocals)) t := fun t kt => S50 t (st51.trans kt)
  have S53 : ∀ t, Steps p.tables e below (T51.setTop (mkF m 50 #[.val (.long f), .second, .val (.int tm), .val (.long db), .second, .val (.ref b1), .val (.long (((tm.toInt64) * (1000 : Int64)) * (1000 : Int64))), .second, .val (.long ((0 : Int64) + ((tm.toInt64) * (1000000 : Int64)))), .second, .val (.long (f + ((tm.toInt64) * (1000000 : Int64)))), .second] [(.int (lcmpW ((0 : Int64) + ((tm.toInt64) * (1000000 : Int64))) (((tm.toInt64) * (1000 : Int64)) * (1000 : Int64))))])) t → Steps p.tables e below (s₁.setTop (entryFrame m #[(.long f), (.int tm), (.long db)] maxLocals)) t := fun t kt => by
    refine S52 t ?_
    show Steps p.tables e below (T51.setTop (mkF m 43 #[.val (.long f), .second, .val (.int tm), .val (.long db), .second, .val (.ref b1), .val (.long (((tm.toInt64) * (1000 : Int64)) * (1000 : Int64))), .second, .val (.long ((0 : Int64) + ((tm.toInt64) * (1000000 : Int64)))), .second, .unset, .unset] [(.long (f + ((tm.toInt64) * (1000000 : Int64))))])) t
    refine XS.lstore X51.here hx rfl (hb hby at_43) rfl (l' := #[.val (.long f), .second, .val (.int tm), .val (.long db), .second, .val (.ref b1), .val (.long (((tm.toInt64) * (1000 : Int64)) * (1000 : Int64))), .second, .val (.long ((0 : Int64) + ((tm.toInt64) * (1000000 : Int64)))), .second, .val (.long (f + ((tm.toInt64) * (1000000 : Int64)))), .second]) rfl ?_
    show Steps p.tables e below (T51.setTop (mkF m 45 #[.val (.long f), .second, .val (.int tm), .val (.long db), .second, .val (.ref b1), .val (.long (((tm.toInt64) * (1000 : Int64)) * (1000 : Int64))), .second, .val (.long ((0 : Int64) + ((tm.toInt64) * (1000000 : Int64)))), .second, .val (.long (f + ((tm.toInt64) * (1000000 : Int64)))), .second] [])) t
    refine XS.lload X51.here hx rfl (hb hby at_45) rfl ?_
    show Steps p.tables e below (T51.setTop (mkF m 47 #[.val (.long f), .second, .val (.int tm), .val (.long db), .second, .val (.ref b1), .val (.long (((tm.toInt64) * (1000 : Int64)) * (1000 : Int64))), .second, .val (.long ((0 : Int64) + ((tm.toInt64) * (1000000 : Int64)))), .second, .val (.long (f + ((tm.toInt64) * (1000000 : Int64)))), .second] [(.long ((0 : Int64) + ((tm.toInt64) * (1000000 : Int64))))])) t
    refine XS.lload X51.here hx rfl (hb hby at_47) rfl ?_
    show Steps p.tables e below (T51.setTop (mkF m 49 #[.val (.long f), .second, .val (.int tm), .val (.long db), .second, .val (.ref b1), .val (.long (((tm.toInt64) * (1000 : Int64)) * (1000 : Int64))), .second, .val (.long ((0 : Int64) + ((tm.toInt64) * (1000000 : Int64)))), .second, .val (.long (f + ((tm.toInt64) * (1000000 : Int64)))), .second] [(.long (((tm.toInt64) * (1000 : Int64)) * (1000 : Int64))), (.long ((0 : Int64) + ((tm.toInt64) * (1000000 : Int64))))])) t
    refine XS.lcmp X51.here hx rfl (hb hby at_49) rfl ?_
    exact kt
  have hc50_54 : ((0 : Int64) + ((tm.toInt64) * (1000000 : Int64))) = (((tm.toInt64) * (1000 : Int64)) * (1000 : Int64)) := own_p1 _
  have S55 : ∀ t, Steps p.tables e below (T51.setTop (mkF m 60 #[.val (.long f), .second, .val (.int tm), .val (.long db), .second, .val (.ref b1), .val (.long (((tm.toInt64) * (1000 : Int64)) * (1000 : Int64))), .second, .val (.long ((0 : Int64) + ((tm.toInt64) * (1000000 : Int64)))), .second, .val (.long (f + ((tm.toInt64) * (1000000 : Int64)))), .second] [(.int (lcmpW (f + ((tm.toInt64) * (1000000 : Int64))) (f + (((tm.toInt64) * (1000 : Int64)) * (1000 : Int64)))))])) t → Steps p.tables e below (s₁.setTop (entryFrame m #[(.long f), (.int tm), (.long db)] maxLocals)) t := fun t kt => by
    refine S53 t ?_
    show Steps p.tables e below (T51.setTop (mkF m 50 #[.val (.long f), .second, .val (.int tm), .val (.long db), .second, .val (.ref b1), .val (.long (((tm.toInt64) * (1000 : Int64)) * (1000 : Int64))), .second, .val (.long ((0 : Int64) + ((tm.toInt64) * (1000000 : Int64)))), .second, .val (.long (f + ((tm.toInt64) * (1000000 : Int64)))), .second] [(.int (lcmpW ((0 : Int64) + ((tm.toInt64) * (1000000 : Int64))) (((tm.toInt64) * (1000 : Int64)) * (1000 : Int64))))])) t
    refine XS.ifNo X51.here hx rfl (hb hby at_50) rfl (own_Leq hc50_54).2 ?_
    show Steps p.tables e below (T51.setTop (mkF m 53 #[.val (.long f), .second, .val (.int tm), .val (.long db), .second, .val (.ref b1), .val (.long (((tm.toInt64) * (1000 : Int64)) * (1000 : Int64))), .second, .val (.long ((0 : Int64) + ((tm.toInt64) * (1000000 : Int64)))), .second, .val (.long (f + ((tm.toInt64) * (1000000 : Int64)))), .second] [])) t
    refine XS.lload X51.here hx rfl (hb hby at_53) rfl ?_
    show Steps p.tables e below (T51.setTop (mkF m 55 #[.val (.long f), .second, .val (.int tm), .val (.long db), .second, .val (.ref b1), .val (.long (((tm.toInt64) * (1000 : Int64)) * (1000 : Int64))), .second, .val (.long ((0 : Int64) + ((tm.toInt64) * (1000000 : Int64)))), .second, .val (.long (f + ((tm.toInt64) * (1000000 : Int64)))), .second] [(.long (f + ((tm.toInt64) * (1000000 : Int64))))])) t
    refine XS.lloadN X51.here hx rfl (hb hby at_55) rfl ?_
    show Steps p.tables e below (T51.setTop (mkF m 56 #[.val (.long f), .second, .val (.int tm), .val (.long db), .second, .val (.ref b1), .val (.long (((tm.toInt64) * (1000 : Int64)) * (1000 : Int64))), .second, .val (.long ((0 : Int64) + ((tm.toInt64) * (1000000 : Int64)))), .second, .val (.long (f + ((tm.toInt64) * (1000000 : Int64)))), .second] [(.long f), (.long (f + ((tm.toInt64) * (1000000 : Int64))))])) t
    refine XS.lload X51.here hx rfl (hb hby at_56) rfl ?_
    show Steps p.tables e below (T51.setTop (mkF m 58 #[.val (.long f), .second, .val (.int tm), .val (.long db), .second, .val (.ref b1), .val (.long (((tm.toInt64) * (1000 : Int64)) * (1000 : Int64))), .second, .val (.long ((0 : Int64) + ((tm.toInt64) * (1000000 : Int64)))), .second, .val (.long (f + ((tm.toInt64) * (1000000 : Int64)))), .second] [(.long (((tm.toInt64) * (1000 : Int64)) * (1000 : Int64))), (.long f), (.long (f + ((tm.toInt64) * (1000000 : Int64))))])) t
    refine XS.ladd X51.here hx rfl (hb hby at_58) rfl ?_
    show Steps p.tables e below (T51.setTop (mkF m 59 #[.val (.long f), .second, .val (.int tm), .val (.long db), .second, .val (.ref b1), .val (.long (((tm.toInt64) * (1000 : Int64)) * (1000 : Int64))), .second, .val (.long ((0 : Int64) + ((tm.toInt64) * (1000000 : Int64)))), .second, .val (.long (f + ((tm.toInt64) * (1000000 : Int64)))), .second] [(.long (f + (((tm.toInt64) * (1000 : Int64)) * (1000 : Int64)))), (.long (f + ((tm.toInt64) * (1000000 : Int64))))])) t
    refine XS.lcmp X51.here hx rfl (hb hby at_59) rfl ?_
    exact kt
  have hc60_56 : (f + ((tm.toInt64) * (1000000 : Int64))) = (f + (((tm.toInt64) * (1000 : Int64)) * (1000 : Int64))) := own_p2 _ _
  have S57 : ∀ t, Steps p.tables e below (T51.setTop (mkF m 70 #[.val (.long f), .second, .val (.int tm), .val (.long db), .second, .val (.ref b1), .val (.long (((tm.toInt64) * (1000 : Int64)) * (1000 : Int64))), .second, .val (.long ((0 : Int64) + ((tm.toInt64) * (1000000 : Int64)))), .second, .val (.long (f + ((tm.toInt64) * (1000000 : Int64)))), .second] [(.int (lcmpW ((f + ((tm.toInt64) * (1000000 : Int64))) - f) (((tm.toInt64) * (1000 : Int64)) * (1000 : Int64))))])) t → Steps p.tables e below (s₁.setTop (entryFrame m #[(.long f), (.int tm), (.long db)] maxLocals)) t := fun t kt => by
    refine S55 t ?_
    show Steps p.tables e below (T51.setTop (mkF m 60 #[.val (.long f), .second, .val (.int tm), .val (.long db), .second, .val (.ref b1), .val (.long (((tm.toInt64) * (1000 : Int64)) * (1000 : Int64))), .second, .val (.long ((0 : Int64) + ((tm.toInt64) * (1000000 : Int64)))), .second, .val (.long (f + ((tm.toInt64) * (1000000 : Int64)))), .second] [(.int (lcmpW (f + ((tm.toInt64) * (1000000 : Int64))) (f + (((tm.toInt64) * (1000 : Int64)) * (1000 : Int64)))))])) t
    refine XS.ifNo X51.here hx rfl (hb hby at_60) rfl (own_Leq hc60_56).2 ?_
    show Steps p.tables e below (T51.setTop (mkF m 63 #[.val (.long f), .second, .val (.int tm), .val (.long db), .second, .val (.ref b1), .val (.long (((tm.toInt64) * (1000 : Int64)) * (1000 : Int64))), .second, .val (.long ((0 : Int64) + ((tm.toInt64) * (1000000 : Int64)))), .second, .val (.long (f + ((tm.toInt64) * (1000000 : Int64)))), .second] [])) t
    refine XS.lload X51.here hx rfl (hb hby at_63) rfl ?_
    show Steps p.tables e below (T51.setTop (mkF m 65 #[.val (.long f), .second, .val (.int tm), .val (.long db), .second, .val (.ref b1), .val (.long (((tm.toInt64) * (1000 : Int64)) * (1000 : Int64))), .second, .val (.long ((0 : Int64) + ((tm.toInt64) * (1000000 : Int64)))), .second, .val (.long (f + ((tm.toInt64) * (1000000 : Int64)))), .second] [(.long (f + ((tm.toInt64) * (1000000 : Int64))))])) t
    refine XS.lloadN X51.here hx rfl (hb hby at_65) rfl ?_
    show Steps p.tables e below (T51.setTop (mkF m 66 #[.val (.long f), .second, .val (.int tm), .val (.long db), .second, .val (.ref b1), .val (.long (((tm.toInt64) * (1000 : Int64)) * (1000 : Int64))), .second, .val (.long ((0 : Int64) + ((tm.toInt64) * (1000000 : Int64)))), .second, .val (.long (f + ((tm.toInt64) * (1000000 : Int64)))), .second] [(.long f), (.long (f + ((tm.toInt64) * (1000000 : Int64))))])) t
    refine XS.lsub X51.here hx rfl (hb hby at_66) rfl ?_
    show Steps p.tables e below (T51.setTop (mkF m 67 #[.val (.long f), .second, .val (.int tm), .val (.long db), .second, .val (.ref b1), .val (.long (((tm.toInt64) * (1000 : Int64)) * (1000 : Int64))), .second, .val (.long ((0 : Int64) + ((tm.toInt64) * (1000000 : Int64)))), .second, .val (.long (f + ((tm.toInt64) * (1000000 : Int64)))), .second] [(.long ((f + ((tm.toInt64) * (1000000 : Int64))) - f))])) t
    refine XS.lload X51.here hx rfl (hb hby at_67) rfl ?_
    show Steps p.tables e below (T51.setTop (mkF m 69 #[.val (.long f), .second, .val (.int tm), .val (.long db), .second, .val (.ref b1), .val (.long (((tm.toInt64) * (1000 : Int64)) * (1000 : Int64))), .second, .val (.long ((0 : Int64) + ((tm.toInt64) * (1000000 : Int64)))), .second, .val (.long (f + ((tm.toInt64) * (1000000 : Int64)))), .second] [(.long (((tm.toInt64) * (1000 : Int64)) * (1000 : Int64))), (.long ((f + ((tm.toInt64) * (1000000 : Int64))) - f))])) t
    refine XS.lcmp X51.here hx rfl (hb hby at_69) rfl ?_
    exact kt
  have hc70_58 : ((f + ((tm.toInt64) * (1000000 : Int64))) - f) = (((tm.toInt64) * (1000 : Int64)) * (1000 : Int64)) := own_p3 _ _
  have S59 : ∀ t, Steps p.tables e below (T51.setTop (mkF m 78 #[.val (.long f), .second, .val (.int tm), .val (.long db), .second, .val (.ref b1), .val (.long (((tm.toInt64) * (1000 : Int64)) * (1000 : Int64))), .second, .val (.long ((0 : Int64) + ((tm.toInt64) * (1000000 : Int64)))), .second, .val (.long (f + ((tm.toInt64) * (1000000 : Int64)))), .second] [(.int (1 : Int32))])) t → Steps p.tables e below (s₁.setTop (entryFrame m #[(.long f), (.int tm), (.long db)] maxLocals)) t := fun t kt => by
    refine S57 t ?_
    show Steps p.tables e below (T51.setTop (mkF m 70 #[.val (.long f), .second, .val (.int tm), .val (.long db), .second, .val (.ref b1), .val (.long (((tm.toInt64) * (1000 : Int64)) * (1000 : Int64))), .second, .val (.long ((0 : Int64) + ((tm.toInt64) * (1000000 : Int64)))), .second, .val (.long (f + ((tm.toInt64) * (1000000 : Int64)))), .second] [(.int (lcmpW ((f + ((tm.toInt64) * (1000000 : Int64))) - f) (((tm.toInt64) * (1000 : Int64)) * (1000 : Int64))))])) t
    refine XS.ifNo X51.here hx rfl (hb hby at_70) rfl (own_Leq hc70_58).2 ?_
    show Steps p.tables e below (T51.setTop (mkF m 73 #[.val (.long f), .second, .val (.int tm), .val (.long db), .second, .val (.ref b1), .val (.long (((tm.toInt64) * (1000 : Int64)) * (1000 : Int64))), .second, .val (.long ((0 : Int64) + ((tm.toInt64) * (1000000 : Int64)))), .second, .val (.long (f + ((tm.toInt64) * (1000000 : Int64)))), .second] [])) t
    refine XS.iconst X51.here hx rfl (hb hby at_73) ?_
    show Steps p.tables e below (T51.setTop (mkF m 74 #[.val (.long f), .second, .val (.int tm), .val (.long db), .second, .val (.ref b1), .val (.long (((tm.toInt64) * (1000 : Int64)) * (1000 : Int64))), .second, .val (.long ((0 : Int64) + ((tm.toInt64) * (1000000 : Int64)))), .second, .val (.long (f + ((tm.toInt64) * (1000000 : Int64)))), .second] [(.int (1 : Int32))])) t
    refine XS.goto X51.here hx rfl (pc0 := 74) (pc' := 78) rfl (hb hby at_74) (by decide) (by decide) ?_
    exact kt
  obtain ⟨fs, hr, hrun, hended, -, hW, hBk, hsame⟩ := X51.leaveW hS29 (by rw [eq49]; exact (Nat.le_trans hk29 Kc38.1)) (v := some (.int (nar .boolean (1 : Int32)))) (fun h => by rw [Bd.returns] at h; cases h)
  refine ⟨_, _, S59 _ ?_, hrun, hended, _, _, rfl, ?_, ⟨_, rfl⟩, hW, hBk, hsame.mono (by decide) (by decide)⟩
  · show Steps p.tables e below (T51.setTop (mkF m 78 #[.val (.long f), .second, .val (.int tm), .val (.long db), .second, .val (.ref b1), .val (.long (((tm.toInt64) * (1000 : Int64)) * (1000 : Int64))), .second, .val (.long ((0 : Int64) + ((tm.toInt64) * (1000000 : Int64)))), .second, .val (.long (f + ((tm.toInt64) * (1000000 : Int64)))), .second] [(.int (1 : Int32))])) _
    exact retN X51 hx (t := .boolean) Bd.returns (by simp) (hb hby at_78) hr
  · show own_Q0 Z f tm db h0 n0 _ T51.heap _
    rw [eq49]
    exact ⟨rfl, N41⟩
set_option maxHeartbeats 40000000 in
theorem own_comes {Post : Tables → Env → Array Value → State → Outcome → State → Prop} (hpost : ∀ tb e args s v u, (limb_1_1.after args s (.returned v) u = true ∧ limb_1_2.after args s (.returned v) u = true ∧ True) → FramedW s (.returned v) u (Jvm.fieldLocs frame_1_writes args s ++ Jvm.arrayLocs frame_1_arrays args s ++ Jvm.staticLocs frame_1_statics s) 16 3200 → Post tb e args s (.returned v) u) :
    ArmFor flags0 classFile x code maxLocals ret World_1 tables_1 room_1 Calls_1 rest_1 Pre_1 Post := by
  intro l hfl _ _ p e ha hc hk s m args below hf hA hF happ hP
  obtain ⟨hcalls, hrest, hpre⟩ := hP
  obtain ⟨-, -, -, hnamed, -, -, -, hat⟩ := (Spec.applies_iff hf).mp happ
  obtain ⟨hg, hn⟩ := and_e (Cond.before_iff.mp (show (Jvm.Cond.and given_1 narrow_1).before args s = true from hpre))
  obtain ⟨g1, g2⟩ := and_e hg
  obtain ⟨g3, g4⟩ := and_e g2
  obtain ⟨g5, g6⟩ := and_e g4
  obtain ⟨w0, w1, w2, rfl⟩ : ∃ w0 w1 w2 : Value, args = #[w0, w1, w2] := by
    have hs : args.size = 3 := by simpa [Cond.value, given_1] using g1
    obtain ⟨L⟩ := args
    match L, hs with
    | [w0, w1, w2], _ => exact ⟨w0, w1, w2, rfl⟩
  have hw := fun d (hd : d ∈ tables_1) => atoms_spec (ws := Jvm.Cond.code x code maxLocals ret :: tables_1) hat d (List.mem_cons_of_mem _ hd)
  have hfit : Fit s := fun {y c} hc i hi => by
    obtain ⟨ha, rfl⟩ := Array.getElem?_eq_some_iff.mp hc
    have q := List.all_eq_true.mp ((Array.all_eq_true_iff_forall_mem.mp hF) _ (Array.getElem_mem ha)) i (List.mem_range.mpr hi)
    simpa [Array.getElem?_eq_getElem hi] using q
  obtain ⟨i0, ei0⟩ := isL_v g3
  obtain rfl : w0 = (.long i0) := Option.some.inj ei0
  obtain ⟨i1, ei1⟩ := is_v g5
  obtain rfl : w1 = (.int i1) := Option.some.inj ei1
  obtain ⟨i2, ei2⟩ := isL_v g6
  obtain rfl : w2 = (.long i2) := Option.some.inj ei2
  obtain ⟨n, o, h1, h2, h3, _, L, rfl, ⟨rfl, N⟩, hq⟩ := own_rm0 l s _ hw tables_1 i0 i1 i2  s.heap s.heap.size (Nat.le_refl _)  p e ha hc hk s m _ below hf ((Spec.applies_iff_loose hf).mp happ).1 ⟨rfl, State.Warmed39.refl s, rfl⟩ trivial
  refine ⟨n, _, h1, h2, h3, hpost _ _ _ _ _ _ ⟨Cond.after_iff.mpr rfl, Cond.after_iff.mpr (eq_i res_at (Term.int_eval (1)) rfl), trivial⟩ ⟨hq.1, hq.2.1, hq.2.2.1, (hq.2.2.2.sift fun y hy => Or.inr (N y hy)).mono (by decide) (by decide)⟩⟩
theorem main_1_1 : Claimed_1_1 := own_comes fun _ _ _ _ _ _ h hF => ⟨h.1, hF⟩
theorem main_1_2 : Claimed_1_2 := own_comes fun _ _ _ _ _ _ h hF => ⟨h.2.1, hF⟩
end Jvm.Pilot.@@N@@
namespace Jvm.Pilot.@@N@@
open Jvm Jvm.ClassFile Sem Op Lib Jvm.Free Jvm.Stand Jvm.Pilot.@@N@@.Jvm.D
/-! MADE BY PROGRAM (witnessworld.py) out of the Statement's table words and the real class files: 15 classes; the members and pool entries that the words name. The judged class is class 1, her method 1. -/
namespace start1
open Jvm.ClassFile
def u (s : String) : CpInfo := .utf8 (stringToUtf16 s)
/-- a pool by its gaps: so many unusable entries, then the entry; so many at the end -/
def gap : Nat → List CpInfo → List CpInfo
  | 0, r => r
  | n + 1, r => .unusable :: gap n r
def poolList (es : List (Nat × CpInfo)) (last : Nat) : List CpInfo := es.foldr (fun e r => gap e.1 (e.2 :: r)) (gap last [])
def pool (es : List (Nat × CpInfo)) (last : Nat) : Array CpInfo := ⟨poolList es last⟩
def fileOf (pool : Array CpInfo) (this : Nat) (attrs : Array Attribute := #[]) (ms : Array MethodInfo := #[]) (fl : Nat := 33) (sup : Nat := 0) (ifs : Array Nat := #[]) (fds : Array FieldInfo := #[]) : ClassFile where
  minorVersion := 0
  majorVersion := 65
  constantPool := pool
  accessFlags := fl
  thisClass := this
  superClass := sup
  interfaces := ifs
  fields := fds
  methods := ms
  attributes := attrs
def plain (name : String) (sup : Option ClassId) : Class where
  name := name
  kind := .ordinary
  loader := none
  accessFlags := 33
  super := sup
  interfaces := #[]
  cf := none
  fields := #[]
  methods := #[]
  instanceTypes := #[]
  staticTypes := #[]
  resolved := #[]
  callSites := []
  init := .initialized
  statics := none
  mirror := none

def pool0 : Array CpInfo := pool [(5, u "<init>"), (0, u "()V"), (1, .class_ 10), (1, u "java/lang/Object")] 113

def k0c0 : Code := { maxStack := 0, maxLocals := 1, code := object_method_1_code, exceptionTable := #[], attributes := #[] }
def k0m0 : Method := { name := "<init>", desc := "()V", sig := { parameters := [], returnType := none }, accessFlags := 1, code := some k0c0 }
/-- java/lang/Object -/
def k0 : Class := { plain "java/lang/Object" none with
  accessFlags := 33
  interfaces := #[]
  cf := some (fileOf pool0 8 #[] #[{ accessFlags := 1, nameIndex := 5, descriptorIndex := 6, attributes := #[] }] 33 0 #[] #[])
  fields := #[]
  methods := #[k0m0]
  instanceTypes := #[]
  staticTypes := #[]
  resolved := Array.replicate 124 none
  statics := none }

def pool1 : Array CpInfo := pool [(2, .class_ 4), (1, u "java/lang/Object"), (0, u "<init>"), (0, u "()V"), (0, .class_ 8), (0, u "com/example/nestwarden/nestwarden/node/Run"), (0, .string 10), (0, u "id"), (0, .string 12), (0, u "name"), (0, .string 14), (0, u "root"), (0, .methodref 7 16), (0, .nameAndType 5 17), (0, u "(Ljava/lang/String;Ljava/lang/String;IJLjava/lang/String;)V"), (0, .long 1000), (1, .methodref 7 21), (0, .nameAndType 22 23), (0, u "deadline"), (0, u "(J)J"), (0, .class_ 25), (0, u "com/example/nestwarden/nestwarden/node/RunDeadlinePinLaw"), (2, u "law"), (0, u "(JIJ)Z")] 3

def k1m0 : Method := { name := "<init>", desc := "()V", sig := { parameters := [], returnType := none }, accessFlags := 1, code := none }
def k1c1 : Code := { maxStack := 8, maxLocals := 12, code := code, exceptionTable := #[], attributes := #[] }
def k1m1 : Method := { name := "law", desc := "(JIJ)Z", sig := { parameters := [.long, .int, .long], returnType := some .boolean }, accessFlags := 9, code := some k1c1 }
/-- com/example/nestwarden/nestwarden/node/RunDeadlinePinLaw -/
def k1 : Class := { plain "com/example/nestwarden/nestwarden/node/RunDeadlinePinLaw" (some 0) with
  accessFlags := 49
  interfaces := #[]
  cf := some (fileOf pool1 24 #[] #[{ accessFlags := 1, nameIndex := 5, descriptorIndex := 6, attributes := #[] }, { accessFlags := 9, nameIndex := 28, descriptorIndex := 29, attributes := #[] }] 49 2 #[] #[])
  fields := #[]
  methods := #[k1m0, k1m1]
  instanceTypes := #[]
  staticTypes := #[]
  resolved := Array.replicate 33 none
  statics := none }

def pool2 : Array CpInfo := pool [(1, .methodref 2 3), (0, .class_ 4), (0, .nameAndType 5 6), (0, u "java/lang/Object"), (0, u "<init>"), (0, u "()V"), (0, .class_ 8), (0, u "java/lang/Record")] 13

def k2c0 : Code := { maxStack := 1, maxLocals := 1, code := jdk_30_method_1_code, exceptionTable := #[], attributes := #[] }
def k2m0 : Method := { name := "<init>", desc := "()V", sig := { parameters := [], returnType := none }, accessFlags := 4, code := some k2c0 }
/-- java/lang/Record -/
def k2 : Class := { plain "java/lang/Record" (some 0) with
  accessFlags := 1057
  interfaces := #[]
  cf := some (fileOf pool2 7 #[] #[{ accessFlags := 4, nameIndex := 5, descriptorIndex := 6, attributes := #[] }] 1057 2 #[] #[])
  fields := #[]
  methods := #[k2m0]
  instanceTypes := #[]
  staticTypes := #[]
  resolved := Array.replicate 22 none
  statics := none }

def pool3 : Array CpInfo := pool [(1, .methodref 2 3), (0, .class_ 4), (0, .nameAndType 5 6), (0, u "java/lang/Record"), (0, u "<init>"), (0, u "()V"), (0, .fieldref 8 9), (0, .class_ 10), (0, .nameAndType 11 12), (0, u "com/example/nestwarden/nestwarden/node/Run"), (0, u "id"), (0, u "Ljava/lang/String;"), (0, .fieldref 8 14), (0, .nameAndType 15 12), (0, u "name"), (0, .fieldref 8 17), (0, .nameAndType 18 19), (0, u "timeoutMs"), (0, u "I"), (0, .fieldref 8 21), (0, .nameAndType 22 23), (0, u "decideBy"), (0, u "J"), (0, .fieldref 8 25), (0, .nameAndType 26 12), (0, u "root"), (0, .long 1000000), (25, u "(Ljava/lang/String;Ljava/lang/String;IJLjava/lang/String;)V"), (3, u "deadline"), (0, u "(J)J")] 28

def k3c0 : Code := { maxStack := 3, maxLocals := 7, code := prog_45_method_1_code, exceptionTable := #[], attributes := #[] }
def k3m0 : Method := { name := "<init>", desc := "(Ljava/lang/String;Ljava/lang/String;IJLjava/lang/String;)V", sig := { parameters := [(.object "java/lang/String"), (.object "java/lang/String"), .int, .long, (.object "java/lang/String")], returnType := none }, accessFlags := 0, code := some k3c0 }
def k3c1 : Code := { maxStack := 6, maxLocals := 3, code := prog_45_method_2_code, exceptionTable := #[], attributes := #[] }
def k3m1 : Method := { name := "deadline", desc := "(J)J", sig := { parameters := [.long], returnType := some .long }, accessFlags := 0, code := some k3c1 }
/-- com/example/nestwarden/nestwarden/node/Run -/
def k3 : Class := { plain "com/example/nestwarden/nestwarden/node/Run" (some 2) with
  accessFlags := 48
  interfaces := #[]
  cf := some (fileOf pool3 8 #[] #[{ accessFlags := 0, nameIndex := 5, descriptorIndex := 53, attributes := #[] }, { accessFlags := 0, nameIndex := 57, descriptorIndex := 58, attributes := #[] }] 48 2 #[] #[{ accessFlags := 18, nameIndex := 11, descriptorIndex := 12, attributes := #[] }, { accessFlags := 18, nameIndex := 15, descriptorIndex := 12, attributes := #[] }, { accessFlags := 18, nameIndex := 18, descriptorIndex := 19, attributes := #[] }, { accessFlags := 18, nameIndex := 22, descriptorIndex := 23, attributes := #[] }, { accessFlags := 18, nameIndex := 26, descriptorIndex := 12, attributes := #[] }])
  fields := #[{ name := "id", type := (.object "java/lang/String"), accessFlags := 18, slot := 0, constantValue := 0 }, { name := "name", type := (.object "java/lang/String"), accessFlags := 18, slot := 1, constantValue := 0 }, { name := "timeoutMs", type := .int, accessFlags := 18, slot := 2, constantValue := 0 }, { name := "decideBy", type := .long, accessFlags := 18, slot := 3, constantValue := 0 }, { name := "root", type := (.object "java/lang/String"), accessFlags := 18, slot := 4, constantValue := 0 }]
  methods := #[k3m0, k3m1]
  instanceTypes := #[(.object "java/lang/String"), (.object "java/lang/String"), .int, .long, (.object "java/lang/String")]
  staticTypes := #[]
  resolved := Array.replicate 87 none
  statics := none }

def pool4 : Array CpInfo := pool [(1, .class_ 2), (0, u "java/io/Serializable"), (0, .class_ 4), (0, u "java/lang/Object")] 2

/-- java/io/Serializable -/
def k4 : Class := { plain "java/io/Serializable" (some 0) with
  accessFlags := 1537
  interfaces := #[]
  cf := some (fileOf pool4 1 #[] #[] 1537 3 #[] #[])
  fields := #[]
  methods := #[]
  instanceTypes := #[]
  staticTypes := #[]
  resolved := Array.replicate 7 none
  statics := none }

def pool5 : Array CpInfo := pool [(1, .class_ 2), (0, u "java/lang/Comparable"), (0, .class_ 4), (0, u "java/lang/Object")] 7

/-- java/lang/Comparable -/
def k5 : Class := { plain "java/lang/Comparable" (some 0) with
  accessFlags := 1537
  interfaces := #[]
  cf := some (fileOf pool5 1 #[] #[] 1537 3 #[] #[])
  fields := #[]
  methods := #[]
  instanceTypes := #[]
  staticTypes := #[]
  resolved := Array.replicate 12 none
  statics := none }

def pool6 : Array CpInfo := pool [(2, .class_ 4), (1, u "java/lang/CharSequence"), (42, .class_ 48), (0, u "java/lang/CharSequence$1CodePointIterator"), (10, .class_ 60), (0, u "java/lang/CharSequence$1CharIterator"), (5, .class_ 67), (0, u "java/lang/Object")] 63

/-- java/lang/CharSequence -/
def k6 : Class := { plain "java/lang/CharSequence" (some 0) with
  accessFlags := 1537
  interfaces := #[]
  cf := some (fileOf pool6 2 #[.nestMembers #[47, 59]] #[] 1537 66 #[] #[])
  fields := #[]
  methods := #[]
  instanceTypes := #[]
  staticTypes := #[]
  resolved := Array.replicate 131 none
  statics := none }

def pool7 : Array CpInfo := pool [(1, .class_ 2), (0, u "java/lang/constant/Constable"), (0, .class_ 4), (0, u "java/lang/Object")] 6

/-- java/lang/constant/Constable -/
def k7 : Class := { plain "java/lang/constant/Constable" (some 0) with
  accessFlags := 1537
  interfaces := #[]
  cf := some (fileOf pool7 1 #[] #[] 1537 3 #[] #[])
  fields := #[]
  methods := #[]
  instanceTypes := #[]
  staticTypes := #[]
  resolved := Array.replicate 11 none
  statics := none }

def pool8 : Array CpInfo := pool [(1, .class_ 2), (0, u "java/lang/constant/ConstantDesc"), (0, .class_ 4), (0, u "java/lang/Object")] 32

/-- java/lang/constant/ConstantDesc -/
def k8 : Class := { plain "java/lang/constant/ConstantDesc" (some 0) with
  accessFlags := 1537
  interfaces := #[]
  cf := some (fileOf pool8 1 #[] #[] 1537 3 #[] #[])
  fields := #[]
  methods := #[]
  instanceTypes := #[]
  staticTypes := #[]
  resolved := Array.replicate 37 none
  statics := none }

def pool9 : Array CpInfo := pool [(2, .class_ 4), (1, u "java/lang/Object"), (0, u "<init>"), (0, u "()V"), (3, .class_ 12), (1, u "java/lang/String"), (0, u "value"), (0, u "[B"), (2, u "coder"), (0, u "B"), (2, u "hash"), (0, u "I"), (2, u "hashIsZero"), (0, u "Z"), (13, u "COMPACT_STRINGS"), (534, .class_ 576), (0, u "java/lang/CharSequence"), (22, u "CASE_INSENSITIVE_ORDER"), (0, u "Ljava/util/Comparator;"), (500, u "serialPersistentFields"), (0, u "[Ljava/io/ObjectStreamField;"), (0, .class_ 1104), (0, u "java/lang/String$CaseInsensitiveComparator"), (1, .class_ 1107), (0, u "java/io/Serializable"), (0, .class_ 1109), (0, u "java/lang/Comparable"), (0, .class_ 1111), (0, u "java/lang/constant/Constable"), (0, .class_ 1113), (0, u "java/lang/constant/ConstantDesc"), (2, u "serialVersionUID"), (0, u "J"), (3, u "REPL"), (0, u "C"), (2, u "LATIN1"), (1, u "UTF16")] 323

def k9m0 : Method := { name := "<init>", desc := "()V", sig := { parameters := [], returnType := none }, accessFlags := 1, code := none }
/-- java/lang/String -/
def k9 : Class := { plain "java/lang/String" (some 0) with
  accessFlags := 49
  interfaces := #[4, 5, 6, 7, 8]
  cf := some (fileOf pool9 10 #[.nestMembers #[1103]] #[{ accessFlags := 1, nameIndex := 5, descriptorIndex := 6, attributes := #[] }] 49 2 #[1106, 1108, 575, 1110, 1112] #[{ accessFlags := 18, nameIndex := 13, descriptorIndex := 14, attributes := #[] }, { accessFlags := 18, nameIndex := 17, descriptorIndex := 18, attributes := #[] }, { accessFlags := 2, nameIndex := 21, descriptorIndex := 22, attributes := #[] }, { accessFlags := 2, nameIndex := 25, descriptorIndex := 26, attributes := #[] }, { accessFlags := 26, nameIndex := 1116, descriptorIndex := 1117, attributes := #[] }, { accessFlags := 24, nameIndex := 40, descriptorIndex := 26, attributes := #[] }, { accessFlags := 26, nameIndex := 1101, descriptorIndex := 1102, attributes := #[] }, { accessFlags := 26, nameIndex := 1121, descriptorIndex := 1122, attributes := #[] }, { accessFlags := 25, nameIndex := 599, descriptorIndex := 600, attributes := #[] }, { accessFlags := 24, nameIndex := 1125, descriptorIndex := 18, attributes := #[] }, { accessFlags := 24, nameIndex := 1127, descriptorIndex := 18, attributes := #[] }])
  fields := #[{ name := "value", type := (.array .byte), accessFlags := 18, slot := 0, constantValue := 0 }, { name := "coder", type := .byte, accessFlags := 18, slot := 1, constantValue := 0 }, { name := "hash", type := .int, accessFlags := 2, slot := 2, constantValue := 0 }, { name := "hashIsZero", type := .boolean, accessFlags := 2, slot := 3, constantValue := 0 }, { name := "serialVersionUID", type := .long, accessFlags := 26, slot := 0, constantValue := 0 }, { name := "COMPACT_STRINGS", type := .boolean, accessFlags := 24, slot := 1, constantValue := 0 }, { name := "serialPersistentFields", type := (.array (.object "java/io/ObjectStreamField")), accessFlags := 26, slot := 2, constantValue := 0 }, { name := "REPL", type := .char, accessFlags := 26, slot := 3, constantValue := 0 }, { name := "CASE_INSENSITIVE_ORDER", type := (.object "java/util/Comparator"), accessFlags := 25, slot := 4, constantValue := 0 }, { name := "LATIN1", type := .byte, accessFlags := 24, slot := 5, constantValue := 0 }, { name := "UTF16", type := .byte, accessFlags := 24, slot := 6, constantValue := 0 }]
  methods := #[k9m0]
  instanceTypes := #[(.array .byte), .byte, .int, .boolean]
  staticTypes := #[.long, .boolean, (.array (.object "java/io/ObjectStreamField")), .char, (.object "java/util/Comparator"), .byte, .byte]
  resolved := Array.replicate 1451 none
  statics := none }

def pool10 : Array CpInfo := pool [(1, u "java/lang/Cloneable"), (0, .class_ 1), (0, u "java/lang/Object"), (0, .class_ 3)] 3

/-- java/lang/Cloneable -/
def k10 : Class := { plain "java/lang/Cloneable" (some 0) with
  accessFlags := 1537
  interfaces := #[]
  cf := some (fileOf pool10 2 #[] #[] 1537 4 #[] #[])
  fields := #[]
  methods := #[]
  instanceTypes := #[]
  staticTypes := #[]
  resolved := Array.replicate 8 none
  statics := none }

/-- the primitive byte -/
def k11 : Class := { plain "byte" none with kind := .primitive 'B', accessFlags := 0x411 }
/-- [B -/
def k12 : Class := { plain "[B" (some 0) with kind := .array 11 .byte, interfaces := #[10, 4], accessFlags := 1041 }

/-- the primitive int -/
def k13 : Class := { plain "int" none with kind := .primitive 'I', accessFlags := 0x411 }
/-- [I -/
def k14 : Class := { plain "[I" (some 0) with kind := .array 13 .int, interfaces := #[10, 4], accessFlags := 1041 }

def heap : Heap := #[]
def classes : Array Class := #[k0, k1, k2, k3, k4, k5, k6, k7, k8, k9, k10, k11, k12, k13, k14]
def interned : List (Array UInt16 × Addr) := []
def slotsUsed : Nat := 0
def theMethod : MethodId := ⟨1, 1⟩
def args0 : Array Value := #[.long 1, .int 2, .long 3]
def aboutOver (below : List Frame) : State where
  vm := { classes := classes, interned := interned.toArray }
  heap := heap
  slotsUsed := slotsUsed
  threads := #[{ frames := .invoking theMethod args0 :: below }]
def below0 : List Frame := [.native { method := ⟨0, 0⟩, args := #[] }]
def about1 : State := aboutOver below0
def p0 : Program := .bare "" "" ""
def e0 : Env := launch0.env 0 0 0
theorem w_frames : about1.frames = Frame.invoking theMethod args0 :: below0 := rfl
set_option maxRecDepth 65536 in
theorem w_args : argsFit about1.vm theMethod args0 = true := by decide +kernel
set_option maxRecDepth 65536 in
theorem w_heap : heapFits about1 = true := by decide +kernel
set_option maxRecDepth 65536 in
theorem w_runnable : about1.curStatus? = some .runnable := by decide +kernel
set_option maxRecDepth 65536 in
theorem w_alone : about1.alone = true := by decide +kernel
set_option maxRecDepth 65536 in
theorem w_named : about1.methodNamed? x = some theMethod := by decide +kernel
set_option maxRecDepth 65536 in
theorem w_hears : about1.hears theMethod below0 = true := by decide +kernel
set_option maxRecDepth 65536 in
theorem w_ripe : about1.ripe theMethod args0 below0 = true := by decide +kernel
theorem w_running : about1.status = .running := rfl
set_option maxRecDepth 65536 in
theorem w_room : about1.hasRoom e0.platform room_1 = true :=
  launch0.hasRoom_least _ room_1 (by decide +kernel) (by decide +kernel) (by decide +kernel) (by decide +kernel) (by decide +kernel) (by decide +kernel)
theorem allAtoms_all (ts : List Jvm.Cond) (a : Array Jvm.Value) (st : Jvm.State) : (allAtoms ts).before a st = ts.all (fun c => c.before a st) := by
  induction ts with
  | nil => rfl
  | cons c t ih =>
    show (Jvm.Cond.and c (allAtoms t)).before a st = _
    rw [Jvm.Cond.before_and, ih, List.all_cons]
def words1 : List Jvm.Cond := Jvm.Cond.code x code maxLocals ret :: tables_1
/-- a 'code' word, met by the world's own term for the bytes: nothing is compared byte by byte -/
theorem code_word {y : MethodName} {bytes : ByteArray} {mx : Nat} {rt : Option FieldType} {a : Array Value} {s : State} {m : MethodId} {meth : Method} {c : Code} (h1 : s.methodNamed? y = some m) (h2 : s.vm.method? m = some meth) (h3 : meth.code = some c) (h4 : c.code = bytes)
    (h5 : (c.maxLocals == mx && c.exceptionTable.isEmpty && decide (c.maxStack ≤ mostOperands) && decide (meth.sig.returnType = rt) && !meth.locks && decide (parseMethodDescriptor y.desc = some meth.sig)) = true) : (Jvm.Cond.code y bytes mx rt).before a s = true := by
  simp only [Bool.and_eq_true, beq_iff_eq, Bool.not_eq_true', decide_eq_true_eq] at h5
  obtain ⟨⟨⟨⟨⟨g1, g2⟩, g3⟩, g4⟩, g5⟩, g6⟩ := h5
  simp [Cond.before, Cond.holds, Cond.value, h1, h2, h3, h4, g1, g2, g3, g4, g5, g6]
def isCode : Jvm.Cond → Bool
  | .code _ _ _ _ => true
  | _ => false
theorem all_split {L : List Jvm.Cond} {P : Jvm.Cond → Bool} (h1 : L.all (fun c => isCode c || P c) = true) (h2 : ∀ c ∈ L.filter isCode, P c = true) : L.all P = true := by
  refine List.all_eq_true.mpr fun c hc => ?_
  have h := List.all_eq_true.mp h1 c hc
  rcases Bool.eq_false_or_eq_true (isCode c) with hi | hi
  · exact h2 c (List.mem_filter.mpr ⟨hc, hi⟩)
  · simpa [hi] using h
set_option maxRecDepth 65536 in
theorem w_c0 : (Jvm.Cond.code x code maxLocals ret).before args0 about1 = true := code_word (m := ⟨1, 1⟩) (meth := k1m1) (c := k1c1) (by decide +kernel) rfl rfl rfl (by decide +kernel)
set_option maxRecDepth 65536 in
theorem w_c1 : (Jvm.Cond.code ({ cls := "com/example/nestwarden/nestwarden/node/Run", name := "<init>", desc := "(Ljava/lang/String;Ljava/lang/String;IJLjava/lang/String;)V" } : Jvm.MethodName) prog_45_method_1_code (7 : Nat) (Option.none : Option Jvm.ClassFile.FieldType)).before args0 about1 = true := code_word (m := ⟨3, 0⟩) (meth := k3m0) (c := k3c0) (by decide +kernel) rfl rfl rfl (by decide +kernel)
set_option maxRecDepth 65536 in
theorem w_c2 : (Jvm.Cond.code ({ cls := "java/lang/Record", name := "<init>", desc := "()V" } : Jvm.MethodName) jdk_30_method_1_code (1 : Nat) (Option.none : Option Jvm.ClassFile.FieldType)).before args0 about1 = true := code_word (m := ⟨2, 0⟩) (meth := k2m0) (c := k2c0) (by decide +kernel) rfl rfl rfl (by decide +kernel)
set_option maxRecDepth 65536 in
theorem w_c3 : (Jvm.Cond.code ({ cls := "java/lang/Object", name := "<init>", desc := "()V" } : Jvm.MethodName) object_method_1_code (1 : Nat) (Option.none : Option Jvm.ClassFile.FieldType)).before args0 about1 = true := code_word (m := ⟨0, 0⟩) (meth := k0m0) (c := k0c0) (by decide +kernel) rfl rfl rfl (by decide +kernel)
set_option maxRecDepth 65536 in
theorem w_c4 : (Jvm.Cond.code ({ cls := "com/example/nestwarden/nestwarden/node/Run", name := "deadline", desc := "(J)J" } : Jvm.MethodName) prog_45_method_2_code (3 : Nat) (Option.some Jvm.ClassFile.FieldType.long)).before args0 about1 = true := code_word (m := ⟨3, 1⟩) (meth := k3m1) (c := k3c1) (by decide +kernel) rfl rfl rfl (by decide +kernel)
def codes1 : List Jvm.Cond := [Jvm.Cond.code x code maxLocals ret, Jvm.Cond.code ({ cls := "com/example/nestwarden/nestwarden/node/Run", name := "<init>", desc := "(Ljava/lang/String;Ljava/lang/String;IJLjava/lang/String;)V" } : Jvm.MethodName) prog_45_method_1_code (7 : Nat) (Option.none : Option Jvm.ClassFile.FieldType), Jvm.Cond.code ({ cls := "java/lang/Record", name := "<init>", desc := "()V" } : Jvm.MethodName) jdk_30_method_1_code (1 : Nat) (Option.none : Option Jvm.ClassFile.FieldType), Jvm.Cond.code ({ cls := "java/lang/Object", name := "<init>", desc := "()V" } : Jvm.MethodName) object_method_1_code (1 : Nat) (Option.none : Option Jvm.ClassFile.FieldType), Jvm.Cond.code ({ cls := "com/example/nestwarden/nestwarden/node/Run", name := "deadline", desc := "(J)J" } : Jvm.MethodName) prog_45_method_2_code (3 : Nat) (Option.some Jvm.ClassFile.FieldType.long)]
set_option maxRecDepth 65536 in
theorem codes_eq : words1.filter isCode = codes1 := rfl
theorem w_codes : ∀ c ∈ words1.filter isCode, c.before args0 about1 = true := by
  rw [codes_eq]
  intro c hc
  simp only [codes1, List.mem_cons, List.not_mem_nil, or_false] at hc
  rcases hc with rfl | rfl | rfl | rfl | rfl
  · exact w_c0
  · exact w_c1
  · exact w_c2
  · exact w_c3
  · exact w_c4
set_option maxRecDepth 65536 in
theorem w_t1 : (words1.take 24).all (fun c => isCode c || c.before args0 about1) = true := by decide +kernel
set_option maxRecDepth 65536 in
theorem w_t2 : (words1.drop 24).all (fun c => isCode c || c.before args0 about1) = true := by decide +kernel
theorem w_tables : (allAtoms (Jvm.Cond.code x code maxLocals ret :: tables_1)).before args0 about1 = true := by
  rw [allAtoms_all]
  show words1.all (fun c => c.before args0 about1) = true
  refine all_split ?_ w_codes
  rw [← List.take_append_drop 24 words1, List.all_append, w_t1, w_t2]
  rfl
set_option maxRecDepth 65536 in
theorem w_case : (Jvm.Cond.and given_1 narrow_1).before args0 about1 = true := by decide +kernel
theorem w_applies : (headSpec (Jvm.Cond.code x code maxLocals ret :: tables_1) room_1).applies x e0.platform about1 = true :=
  (Spec.applies_iff w_frames).mpr ⟨w_running, w_runnable, w_alone, w_named, w_hears, w_ripe, w_room, w_tables⟩
theorem atStart : AtStart classFile x code maxLocals ret World_1 tables_1 room_1 Calls_1 rest_1 Pre_1 launch0 p0 e0 about1 theMethod args0 below0 :=
  ⟨lists_1, trivial, launch0.admits_env _ _ _, launch0.least_env, fairChoices_fair.cas, fairChoices_fair.clock, w_frames, w_args, w_heap, w_applies, trivial, trivial, w_case⟩
end start1
theorem witness_1 : WitnessClaimed_1 := ⟨start1.p0, start1.e0, start1.about1, start1.theMethod, start1.args0, start1.below0, start1.atStart⟩
end Jvm.Pilot.@@N@@
