import JvmDerived
import JvmDerived.Pilot.@@N@@Statement
import JvmDerived.Pilot.@@N@@Code
set_option linter.unusedVariables false
set_option linter.unusedSimpArgs false
set_option maxRecDepth 65536
namespace Jvm.Pilot.@@N@@
open Jvm Jvm.ClassFile Sem Op Lib Jvm.Free Jvm.Stand Jvm.LawKit Jvm.RoadKit Bundle Jvm.Pilot.@@N@@.Jvm.D
section OwnKit
variable {p : Program} {l : Launch} {e : Env} {R : Room} {s : State} {m : MethodId} {args : Array Value} {below : List Frame} {meth : Method} {c : Code} {T : State} {locs : List Loc} {cells slots : Nat}
theorem own_retI (X : Stand p l e R s m args below meth c T locs cells slots) (hx : p.tables.exec = Jvm.exec) {pc : Nat} {Ls : Array Slot} {z : Int32} {rest : List Value} (hret : meth.sig.returnType = some .int) (hd : decode c.code pc = .ok (.ireturn, 1)) {fs : List Frame}
    (hl : ∀ (f : JFrame) (acts : List Action), f.method = m → f.locked = none → f.entered = [] → (doReturn e (T.setTop f) acts (some (.int z))).1 = T.setFrames fs) : Steps p.tables e below (T.setTop (mkF m pc Ls (.int z :: rest))) (T.setFrames fs) := by
  have hm' : T.vm.method? m = some meth := X.method'
  have hn : narrow .int (.int z) = .int z := rfl
  show Steps p.tables e below (T.setTop { method := m, pc := pc, locals := Ls, stack := _ :: rest, locked := none }) _
  jvm_step X.here [X.here.top, hx, hd, hm', hret, hn]
  first | (intro acts; rw [hl _ acts rfl rfl rfl]) | rw [hl _ _ rfl rfl rfl]
  exact Steps.refl _
/-- where the run stands, with the same writes and figures as at X -/
abbrev own_like (_ : Stand p l e R s m args below meth c T locs cells slots) (T' : State) : Prop := Stand p l e R s m args below meth c T' locs cells slots
end OwnKit
theorem own_Llt {a b : Int64} (h : a < b) : ifCond.holds .lt (lcmpW a b) = true ∧ ifCond.holds .ge (lcmpW a b) = false ∧ ifCond.holds .gt (lcmpW b a) = true ∧ ifCond.holds .le (lcmpW b a) = false := by
  simp only [if0]
  exact ⟨(tlt ((lw_lt a b).mpr h)).1, (tlt ((lw_lt a b).mpr h)).2.1, (tlt ((lw_gt b a).mpr h)).2.2.1, (tlt ((lw_gt b a).mpr h)).2.2.2⟩
theorem own_Lnl {a b : Int64} (h : ¬ a < b) : ifCond.holds .lt (lcmpW a b) = false ∧ ifCond.holds .ge (lcmpW a b) = true ∧ ifCond.holds .gt (lcmpW b a) = false ∧ ifCond.holds .le (lcmpW b a) = true := by
  simp only [if0]
  have h1 : ¬ lcmpW a b < 0 := fun q => h ((lw_lt a b).mp q)
  have h2 : ¬ 0 < lcmpW b a := fun q => h ((lw_gt b a).mp q)
  exact ⟨(flt h1).1, (flt h1).2.1, (flt h2).2.2.1, (flt h2).2.2.2⟩
theorem own_Leq {a b : Int64} (h : a = b) : ifCond.holds .eq (lcmpW a b) = true ∧ ifCond.holds .ne (lcmpW a b) = false := by
  simp only [if0]
  exact teq ((lw_eq a b).mpr h)
theorem own_Lne {a b : Int64} (h : ¬ a = b) : ifCond.holds .eq (lcmpW a b) = false ∧ ifCond.holds .ne (lcmpW a b) = true := by
  simp only [if0]
  exact feq fun q => h ((lw_eq a b).mp q)
theorem own_StaK {Z : State} {h h' : Heap} {C n d : String} {v : Value} {ws : List Addr} (F : Sta Z h C n d v) (K : Keep h h' ws) (q : ∀ x ∈ ws, ∃ c : Cell, h[x]? = some c ∧ c.vm.isStatics = false) : Sta Z h' C n d v := by
  obtain ⟨cf, i, k, f, st, cell, h1, h2, h3, h4, h5, h6, h7⟩ := F
  refine ⟨cf, i, k, f, st, cell, h1, h2, h3, h4, K.2.1 st cell h5 (fun hm => ?_), h6, h7⟩
  obtain ⟨c, e1, e2⟩ := q _ hm
  rw [h5] at e1
  cases e1
  rw [h6] at e2
  cases e2
theorem own_ExaS {Z : State} {h : Heap} {a : Addr} {C : String} (E : Exa Z h a C) : ∃ c : Cell, h[a]? = some c ∧ c.vm.isStatics = false := by
  obtain ⟨c, k, e1, -, -, e2, -⟩ := E
  exact ⟨c, e1, e2⟩
/-- a boolean as the JVM's int -/
def own_b (b : Bool) : Int32 := if b then 1 else 0
theorem own_b_t : own_b true = 1 := rfl
theorem own_b_f : own_b false = 0 := rfl
theorem own_b0 {b : Bool} : own_b b = 0 ↔ b = false := by cases b <;> decide
theorem own_b_inj {b c : Bool} : own_b b = own_b c ↔ b = c := by cases b <;> cases c <;> decide
theorem own_leafT {b : Bool} (h : b = true) : (some (.int (nar .boolean (1 : Int32))) : Option Value) = some (.int (own_b b)) := by subst h; rfl
theorem own_leafF {b : Bool} (h : b = false) : (some (.int (nar .boolean (0 : Int32))) : Option Value) = some (.int (own_b b)) := by subst h; rfl
theorem own_bt {b : Bool} (h : b = true) : (1 : Int32) = own_b b := by subst h; rfl
theorem own_bf {b : Bool} (h : b = false) : (0 : Int32) = own_b b := by subst h; rfl
theorem own_b_nar (b : Bool) : nar .boolean (own_b b) = own_b b := by cases b <;> rfl
theorem own_wS {Z : State} {a0 : Array Value} (hw : ∀ d ∈ tables_1, d.before a0 Z = true) : ∀ a ∈ Bundle.stringAtoms, a.before a0 Z = true := by
  intro d hd
  simp only [Bundle.stringAtoms, List.mem_cons, List.not_mem_nil, or_false] at hd
  rcases hd with rfl | rfl | rfl | rfl | rfl | rfl | rfl
  · exact (hw _ (List.mem_of_getElem? (i := 2) rfl))
  · exact (hw _ (List.mem_of_getElem? (i := 1) rfl))
  · exact (hw _ (List.mem_of_getElem? (i := 19) rfl))
  · exact (hw _ (List.mem_of_getElem? (i := 29) rfl))
  · exact (hw _ (List.mem_of_getElem? (i := 27) rfl))
  · exact (hw _ (List.mem_of_getElem? (i := 81) rfl))
  · exact (hw _ (List.mem_of_getElem? (i := 82) rfl))
abbrev own_EL : List (String × Nat) := consts_1
theorem own_EW {Z : State} {a0 : Array Value} (hw : ∀ d ∈ tables_1, d.before a0 Z = true) : EW Z a0 own_EL := (EW.cons (hw _ (List.mem_of_getElem? (i := 80) rfl)) (by decide) EW.nil)
theorem own_SafeArv {Z : State} {EL : List (String × Nat)} {vm : Vm} {h : Heap} {a : Addr} {k : ClassId} {ty : FieldType} {z : Int32} {vs : List Value} {dv : Value} (hal : Z.vm.Alike vm) (F : Arv Z h a k ty z vs dv) (ht : ty ≠ .byte) : Safe Z EL vm h a := by
  obtain ⟨c, A, -⟩ := F
  exact Safe.arr hal A ht
theorem own_backSE {p : Program} {l : Launch} {e : Env} {R : Room} {s : State} {args : Array Value} {below : List Frame} {Z : State} {a0 : Array Value} {EL : List (String × Nat)} {h : Heap} {vm0 : Vm} {y : MethodName} {bytes : ByteArray} {maxL : Nat} {ret : Option FieldType} {rm : Room} {len W : Nat} {as' : Array Value} {Q : Option Value → Heap → List Loc → Prop} {E : Vm → Prop}
    (hM : MetFree l y (head1 [Cond.code y bytes maxL ret] rm) (fun a U => a = as' ∧ Z.Warmed39 U.vm ∧ U.heap = h ∧ CHv Z EL U.vm h ∧ E U.vm) (fun _ _ _ _ _ => True) (fun _ U o U' => ∃ v L, o = .returned v ∧ Q v U'.heap L ∧ CHr Z EL U.vm U.heap U'.vm U'.heap ∧ ReturnedEndW U o U' L rm.cells rm.slots))
    (hZ : Z.Warmed39 vm0) (wc : (Cond.code y bytes maxL ret).before a0 Z = true) (wz : (Cond.initialized y.cls).before a0 Z = true) (hf : rm.frames + 1 ≤ R.frames) (hl : W + (maxL + 11) + rm.locals ≤ R.locals) (hEL : EW Z a0 EL) (H : CHv Z EL vm0 h) (hE : ∀ vm1, CHr Z EL vm0 h vm1 h → E vm1) :
    BackS l R p e below (s.setVm vm0) args y len W (fun A a => a = as' ∧ A.U.heap = h ∧ A.cells + rm.cells ≤ R.cells ∧ A.slots + rm.slots ≤ R.slots)
      (fun A _ v B => ∃ L, Q v B.U.heap L ∧ B.locs = A.locs ++ L ∧ B.cells = A.cells + rm.cells ∧ B.slots = A.slots + rm.slots ∧ CHr Z EL vm0 h B.U.vm B.U.heap) := by
  refine BackS.of_freeW (bytes := bytes) (maxL := maxL) (ret := ret) (E := fun _ first o t L k n => (k = rm.cells ∧ n = rm.slots) ∧ (∃ v, o = .returned v ∧ Q v t.heap L) ∧ CHr Z EL first.vm first.heap t.vm t.heap) hM hf hl ?_ ?_ (fun _ _ _ _ _ _ _ _ _ => trivial) ?_ ?_
  · intro m meth c A a Y hp
    have hU : Z.Warmed39 A.U.vm := wtrans (s := s.setVm vm0) hZ Y.warmed
    refine ⟨?_, mv hU wc, mv hU wz, hp.2.2⟩
    show (Cond.and _ .tt).before a A.U = true
    rw [Cond.before_and, mv hU wc]; rfl
  · intro m meth c A a g mk Y hp
    have q := CHv.at Y hZ hEL H
    exact ⟨hp.1, wtrans (s := s.setVm vm0) hZ Y.warmed, hp.2.1, q.1, hE _ q⟩
  · rintro _ _ _ _ ⟨v, L, h1, h2, h3, h4⟩
    exact ⟨L, _, _, h4, ⟨rfl, rfl⟩, ⟨v, h1, h2⟩, h3⟩
  · rintro m meth c A a g mk v t L k n Y hp - - ⟨⟨e1, e2⟩, ⟨v', e3, e4⟩, e5⟩
    cases e3
    subst e1 e2
    refine ⟨L, e4, rfl, rfl, rfl, (CHv.at Y hZ hEL H).trans ?_⟩
    rw [← hp.2.1]
    exact e5
theorem own_ArvS {Z : State} {h : Heap} {a : Addr} {k : ClassId} {ty : FieldType} {z : Int32} {vs : List Value} {dv : Value} (F : Arv Z h a k ty z vs dv) : ∃ c : Cell, h[a]? = some c ∧ c.vm.isStatics = false := by
  obtain ⟨c, A, -⟩ := F
  refine ⟨c, A.1, ?_⟩
  have q := A.2.1.1
  cases hv : c.vm <;> first | rfl | exact absurd hv (q _)
def own_lo (c : Int32) : Int32 := c.toInt8.toInt32
theorem own_lolo (c : Int32) : nar .byte (c.toInt8.toInt32) = own_lo c := by
  show ((c.toInt8.toInt32).toInt8).toInt32 = c.toInt8.toInt32
  rw [Int8.toInt8_toInt32]
theorem own_m8 (y : Int32) : nar .char ((y &&& (255 : Int32)).toUInt32.toUInt16.toUInt32.toInt32) = y &&& (255 : Int32) ∧ 0 ≤ (y &&& (255 : Int32)).toInt ∧ (y &&& (255 : Int32)).toInt ≤ 255 := by
  have m := c_mask y (255 : Int32) 8 (by decide) (by decide)
  have a := c_i2c (y &&& (255 : Int32))
  have b := c_i2c ((y &&& (255 : Int32)).toUInt32.toUInt16.toUInt32.toInt32)
  refine ⟨Int32.toInt_inj.mp ?_, by omega, by omega⟩
  show (((y &&& (255 : Int32)).toUInt32.toUInt16.toUInt32.toInt32).toUInt32.toUInt16.toUInt32.toInt32).toInt = _
  omega
theorem own_lat8 (y : Int32) : ¬ (255 : Int32) < nar .char ((y &&& (255 : Int32)).toUInt32.toUInt16.toUInt32.toInt32) := by
  have q := own_m8 y
  rw [q.1, Int32.lt_iff_toInt_lt]
  have : (255 : Int32).toInt = 255 := rfl
  omega
theorem own_three {y : Int32} (h0 : ¬ (y &&& (3 : Int32)) = (0 : Int32)) (h1 : ¬ (y &&& (3 : Int32)) = (1 : Int32)) (h2 : ¬ (y &&& (3 : Int32)) = (2 : Int32)) : (3 : Int32) = (y &&& (3 : Int32)) := by
  have m := c_mask y (3 : Int32) 2 (by decide) (by decide)
  have k : ∀ i : Int32, ¬ (y &&& (3 : Int32)) = i → ¬ (y &&& (3 : Int32)).toInt = i.toInt := fun i q e => q (Int32.toInt_inj.mp e)
  have a0 := k _ h0
  have a1 := k _ h1
  have a2 := k _ h2
  have e0 : (0 : Int32).toInt = 0 := rfl
  have e1 : (1 : Int32).toInt = 1 := rfl
  have e2 : (2 : Int32).toInt = 2 := rfl
  have e3 : (3 : Int32).toInt = 3 := rfl
  exact Int32.toInt_inj.mp (by omega)
theorem own_d9_0 : decode jdk_30_method_1_code 0 = .ok (.aload_n 0, 1) := by decide +kernel
theorem own_d9_1 : decode jdk_30_method_1_code 1 = .ok (.invokespecial 1, 3) := by decide +kernel
theorem own_d9_4 : decode jdk_30_method_1_code 4 = .ok (.return_, 1) := by decide +kernel
theorem own_ef9 (m : MethodId) (x0 : Addr) : entryFrame m #[(.ref x0)] 1 = mkF m 0 #[.val (.ref x0)] [] := by first | (simp [entryFrame, mkF, argsToLocals, Value.category]; done) | rfl
def own_Q9 (Z : State) (a : Addr) (h0 : Heap) (n0 : Nat) (v : Option Value) (h : Heap) (L : List Loc) : Prop := v = none ∧ L = [] ∧ h = h0
theorem own_pn0 : plainName "java/lang/Record" = true := by first | (simp [plainName, overriddenIn]; done) | decide +kernel
set_option maxHeartbeats 40000000 in
theorem own_rm9 (l : Launch) (Z : State) (a0 : Array Value) (hw : ∀ d ∈ tables_1, d.before a0 Z = true) (ws : List Jvm.Cond) (a : Addr) (h0 : Heap) (n0 : Nat) (Z0 : n0 ≤ h0.size) :
    MetFree l (⟨"java/lang/Record", "<init>", "()V"⟩ : MethodName) (head1 (Jvm.Cond.code (⟨"java/lang/Record", "<init>", "()V"⟩ : MethodName) jdk_30_method_1_code 1 none :: ws) ({ frames := 1, cells := 0, slots := 0, locals := 12 } : Room)) (fun argv U => argv = #[(.ref a)] ∧ Z.Warmed39 U.vm ∧ U.heap = h0) (fun _ _ _ _ _ => True) (fun _ U o U' => ∃ v L, o = .returned v ∧ own_Q9 Z a h0 n0 v U'.heap L ∧ FrameEnd U o U' L ({ frames := 1, cells := 0, slots := 0, locals := 12 } : Room).cells ({ frames := 1, cells := 0, slots := 0, locals := 12 } : Room).slots) := by
  refine MetFree.of_bodySF (plainFor_of_name own_pn0) hisR ?_
  intro p e s m args below meth c s₁ Bd hml0 hP hK
  obtain ⟨rfl, hZ, hh⟩ := hP
  have hx := Bd.exec
  have hby := Bd.bytes
  have hml : c.maxLocals = 1 := hml0
  have hown : s.vm.findClass "java/lang/Record" = some m.cls := findClass_of_methodNamed Bd.named
  have hnm := (name_of_methodNamed Bd.named Bd.method).1
  have X0 : Stand p l e ({ frames := 1, cells := 0, slots := 0, locals := 12 } : Room) s m #[(.ref a)] below meth c s₁ [] 0 0 := Stand.of_body Bd
  have e0 : s₁.heap = h0 := by rw [← hh, Bd.state]; rfl
  have N0 := Fr.nil n0
  have pre0 : ∀ t, Steps p.tables e below (s₁.setTop (mkF m 0 #[.val (.ref a)] [])) t → Steps p.tables e below (s₁.setTop (entryFrame m #[(.ref a)] 1)) t := fun t k => castTop (own_ef9 m a) k
  have S1 : ∀ t, Steps p.tables e below (s₁.setTop (mkF m 1 #[.val (.ref a)] [(.ref a)])) t → Steps p.tables e below (s₁.setTop (entryFrame m #[(.ref a)] 1)) t := fun t kt => by
    refine pre0 t ?_
    show Steps p.tables e below (s₁.setTop (mkF m 0 #[.val (.ref a)] [])) t
    refine XS.aloadN X0.here hx rfl (hb hby own_d9_0) rfl rfl ?_
    exact kt
  obtain ⟨T2, X2, e2, st2⟩ := initO X0 hx hZ hown (hw _ (List.mem_of_getElem? (i := 53) rfl)) (hw _ (List.mem_of_getElem? (i := 12) rfl)) (hw _ (List.mem_of_getElem? (i := 13) rfl)) e0 (g := (mkF m 1 #[.val (.ref a)] [(.ref a)])) rfl (by rw [hml]; rfl) rfl (hb hby own_d9_1) (by decide) (W := 0) (by show 2 * 0 + _ ≤ _; exact Nat.le_of_eq rfl) (by decide)
  have S3 : ∀ t, Steps p.tables e below (T2.setTop (mkF m 4 #[.val (.ref a)] [])) t → Steps p.tables e below (s₁.setTop (entryFrame m #[(.ref a)] 1)) t := fun t kt => S1 t (st2 _ kt)
  obtain ⟨fs, hr, hrun, hended, hW, hsame⟩ := X2.leave (v := none) (fun _ => rfl)
  refine ⟨_, _, S3 _ ?_, hrun, hended, _, _, rfl, ?_, ⟨_, rfl⟩, hW, hsame.mono (by decide) (by decide)⟩
  · show Steps p.tables e below (T2.setTop (mkF m 4 #[.val (.ref a)] [])) _
    exact X2.returnOut hx Bd.returns (hb hby own_d9_4) hr
  · show own_Q9 Z a h0 n0 _ T2.heap _
    rw [e2]
    exact ⟨rfl, rfl, rfl⟩
theorem own_pd0 : parseMethodDescriptor "()V" = some ⟨[], none⟩ := by decide +kernel
theorem own_d8_0 : decode prog_49_method_1_code 0 = .ok (.aload_n 0, 1) := by decide +kernel
theorem own_d8_1 : decode prog_49_method_1_code 1 = .ok (.invokespecial 1, 3) := by decide +kernel
theorem own_d8_4 : decode prog_49_method_1_code 4 = .ok (.aload_n 0, 1) := by decide +kernel
theorem own_d8_5 : decode prog_49_method_1_code 5 = .ok (.aload_n 1, 1) := by decide +kernel
theorem own_d8_6 : decode prog_49_method_1_code 6 = .ok (.putfield 7, 3) := by decide +kernel
theorem own_d8_9 : decode prog_49_method_1_code 9 = .ok (.aload_n 0, 1) := by decide +kernel
theorem own_d8_10 : decode prog_49_method_1_code 10 = .ok (.aload_n 2, 1) := by decide +kernel
theorem own_d8_11 : decode prog_49_method_1_code 11 = .ok (.putfield 13, 3) := by decide +kernel
theorem own_d8_14 : decode prog_49_method_1_code 14 = .ok (.return_, 1) := by decide +kernel
theorem own_ef8 (m : MethodId) (x0 : Addr) (x1 : Addr) (x2 : Addr) : entryFrame m #[(.ref x0), (.ref x1), (.ref x2)] 3 = mkF m 0 #[.val (.ref x0), .val (.ref x1), .val (.ref x2)] [] := by first | (simp [entryFrame, mkF, argsToLocals, Value.category]; done) | rfl
def own_Q8 (Z : State) (a : Addr) (s1 : Addr) (s2 : Addr) (u0 : Value) (u1 : Value) (h0 : Heap) (n0 : Nat) (v : Option Value) (h : Heap) (L : List Loc) : Prop := v = none ∧ Fr n0 L ∧ Keep h0 h [a] ∧ Exa Z h a "com/example/nestwarden/nestwarden/store/Journal$Change" ∧ Fld Z h a "com/example/nestwarden/nestwarden/store/Journal$Change" "key" "Ljava/lang/String;" (.ref s1) ∧ Fld Z h a "com/example/nestwarden/nestwarden/store/Journal$Change" "record" "[B" (.ref s2)
theorem own_pn1 : plainName "com/example/nestwarden/nestwarden/store/Journal$Change" = true := by first | (simp [plainName, overriddenIn]; done) | decide +kernel
set_option maxHeartbeats 40000000 in
theorem own_rm8 (l : Launch) (Z : State) (a0 : Array Value) (hw : ∀ d ∈ tables_1, d.before a0 Z = true) (ws : List Jvm.Cond) (a : Addr) (s1 : Addr) (s2 : Addr) (u0 : Value) (u1 : Value) (h0 : Heap) (n0 : Nat) (Z0 : n0 ≤ h0.size) (E_a : Exa Z h0 a "com/example/nestwarden/nestwarden/store/Journal$Change") (g_a : n0 ≤ a) (F_key : Fld Z h0 a "com/example/nestwarden/nestwarden/store/Journal$Change" "key" "Ljava/lang/String;" u0) (F_record : Fld Z h0 a "com/example/nestwarden/nestwarden/store/Journal$Change" "record" "[B" u1) :
    MetFree l (⟨"com/example/nestwarden/nestwarden/store/Journal$Change", "<init>", "(Ljava/lang/String;[B)V"⟩ : MethodName) (head1 (Jvm.Cond.code (⟨"com/example/nestwarden/nestwarden/store/Journal$Change", "<init>", "(Ljava/lang/String;[B)V"⟩ : MethodName) prog_49_method_1_code 3 none :: ws) ({ frames := 2, cells := 0, slots := 0, locals := 24 } : Room)) (fun argv U => argv = #[(.ref a), (.ref s1), (.ref s2)] ∧ Z.Warmed39 U.vm ∧ U.heap = h0) (fun _ _ _ _ _ => True) (fun _ U o U' => ∃ v L, o = .returned v ∧ own_Q8 Z a s1 s2 u0 u1 h0 n0 v U'.heap L ∧ FrameEnd U o U' L ({ frames := 2, cells := 0, slots := 0, locals := 24 } : Room).cells ({ frames := 2, cells := 0, slots := 0, locals := 24 } : Room).slots) := by
  refine MetFree.of_bodySF (plainFor_of_name own_pn1) hisR ?_
  intro p e s m args below meth c s₁ Bd hml0 hP hK
  obtain ⟨rfl, hZ, hh⟩ := hP
  have hx := Bd.exec
  have hby := Bd.bytes
  have hml : c.maxLocals = 3 := hml0
  have hown : s.vm.findClass "com/example/nestwarden/nestwarden/store/Journal$Change" = some m.cls := findClass_of_methodNamed Bd.named
  have hnm := (name_of_methodNamed Bd.named Bd.method).1
  have X0 : Stand p l e ({ frames := 2, cells := 0, slots := 0, locals := 24 } : Room) s m #[(.ref a), (.ref s1), (.ref s2)] below meth c s₁ [] 0 0 := Stand.of_body Bd
  have e0 : s₁.heap = h0 := by rw [← hh, Bd.state]; rfl
  have N0 := Fr.nil n0
  have pre0 : ∀ t, Steps p.tables e below (s₁.setTop (mkF m 0 #[.val (.ref a), .val (.ref s1), .val (.ref s2)] [])) t → Steps p.tables e below (s₁.setTop (entryFrame m #[(.ref a), (.ref s1), (.ref s2)] 3)) t := fun t k => castTop (own_ef8 m a s1 s2) k
  have S2 : ∀ t, Steps p.tables e below (s₁.setTop (mkF m 1 #[.val (.ref a), .val (.ref s1), .val (.ref s2)] [(.ref a)])) t → Steps p.tables e below (s₁.setTop (entryFrame m #[(.ref a), (.ref s1), (.ref s2)] 3)) t := fun t kt => by
    refine pre0 t ?_
    show Steps p.tables e below (s₁.setTop (mkF m 0 #[.val (.ref a), .val (.ref s1), .val (.ref s2)] [])) t
    refine XS.aloadN X0.here hx rfl (hb hby own_d8_0) rfl rfl ?_
    exact kt
  obtain ⟨_, _, ⟨T3, L3, k3, n3⟩, -, X3, ⟨Lc3, hQ3, l3, y3, z3⟩, st3⟩ := X0.specialBack hx (y := (⟨"java/lang/Record", "<init>", "()V"⟩ : MethodName)) rfl hown (mvT hZ (hw _ (List.mem_of_getElem? (i := 48) rfl))) (mvT hZ (hw _ (List.mem_of_getElem? (i := 49) rfl))) (mvT hZ (hw _ (List.mem_of_getElem? (i := 52) rfl))) (by decide) (backOf (W := 0) (own_rm9 l Z a0 hw [] (a) h0 n0 Z0) hZ (hw _ (List.mem_of_getElem? (i := 52) rfl)) (hw _ (List.mem_of_getElem? (i := 51) rfl)) (by decide) (by decide)) (g := (mkF m 1 #[.val (.ref a), .val (.ref s1), .val (.ref s2)] [(.ref a)])) rfl (by rw [hml]; rfl) (Steps.refl _) (a := a) (argsL := []) (rest := []) (lenOf own_pd0 rfl) rfl (by show 2 * 0 + _ ≤ _; exact Nat.le_of_eq rfl) (hb hby own_d8_1) (fun _ _ => ⟨rfl, e0, (by decide : 0 + 0 ≤ _), (by decide : 0 + 0 ≤ _)⟩)
  dsimp only [Pt.U, Pt.locs, Pt.cells, Pt.slots] at X3 l3 y3 z3 st3 hQ3
  subst l3 y3 z3
  obtain ⟨rfl, rfl, eq1⟩ := hQ3
  try rw [List.append_nil] at X3
  have S4 : ∀ t, Steps p.tables e below (T3.setTop (mkF m 4 #[.val (.ref a), .val (.ref s1), .val (.ref s2)] [])) t → Steps p.tables e below (s₁.setTop (entryFrame m #[(.ref a), (.ref s1), (.ref s2)] 3)) t := fun t kt => S2 t (st3.trans kt)
  have S5 : ∀ t, Steps p.tables e below (T3.setTop (mkF m 6 #[.val (.ref a), .val (.ref s1), .val (.ref s2)] [(.ref s1), (.ref a)])) t → Steps p.tables e below (s₁.setTop (entryFrame m #[(.ref a), (.ref s1), (.ref s2)] 3)) t := fun t kt => by
    refine S4 t ?_
    show Steps p.tables e below (T3.setTop (mkF m 4 #[.val (.ref a), .val (.ref s1), .val (.ref s2)] [])) t
    refine XS.aloadN X3.here hx rfl (hb hby own_d8_4) rfl rfl ?_
    refine XS.aloadN X3.here hx rfl (hb hby own_d8_5) rfl rfl ?_
    exact kt
  obtain ⟨T6, h6, X6, e6, W6, st6⟩ := putF X3 hx hZ hown (host := "") (Or.inl (hw _ (List.mem_of_getElem? (i := 54) rfl))) Via.refl eq1 F_key E_a (Or.inr ⟨(hw _ (List.mem_of_getElem? (i := 55) rfl)), rfl, hnm⟩) (hw _ (List.mem_of_getElem? (i := 35) rfl)) (ty := (.object "java/lang/String")) (by decide) rfl rfl (g := (mkF m 6 #[.val (.ref a), .val (.ref s1), .val (.ref s2)] [(.ref s1), (.ref a)])) rfl rfl (hb hby own_d8_6)
  have S7 : ∀ t, Steps p.tables e below (T6.setTop (mkF m 9 #[.val (.ref a), .val (.ref s1), .val (.ref s2)] [])) t → Steps p.tables e below (s₁.setTop (entryFrame m #[(.ref a), (.ref s1), (.ref s2)] 3)) t := fun t kt => S5 t (st6 _ kt)
  have F8 := E_a.wr W6
  have F9 := F_key.same W6
  have F10 := F_record.other W6 (Or.inr (slot_ne (Or.inr (hw _ (List.mem_of_getElem? (i := 57) rfl))) (Or.inr (hw _ (List.mem_of_getElem? (i := 55) rfl))) (by decide) (t := (.array .byte)) (t' := (.object "java/lang/String")) (by decide) (by decide)))
  have N11 := Fr.snoc X6 N0 g_a
  have K12 : Keep h0 h6 [a] := (Keep.refl h0 [a]).wr W6 (Or.inl (List.mem_of_getElem? (i := 0) rfl))
  have S13 : ∀ t, Steps p.tables e below (T6.setTop (mkF m 11 #[.val (.ref a), .val (.ref s1), .val (.ref s2)] [(.ref s2), (.ref a)])) t → Steps p.tables e below (s₁.setTop (entryFrame m #[(.ref a), (.ref s1), (.ref s2)] 3)) t := fun t kt => by
    refine S7 t ?_
    show Steps p.tables e below (T6.setTop (mkF m 9 #[.val (.ref a), .val (.ref s1), .val (.ref s2)] [])) t
    refine XS.aloadN X6.here hx rfl (hb hby own_d8_9) rfl rfl ?_
    refine XS.aloadN X6.here hx rfl (hb hby own_d8_10) rfl rfl ?_
    exact kt
  obtain ⟨T14, h14, X14, e14, W14, st14⟩ := putF X6 hx hZ hown (host := "") (Or.inl (hw _ (List.mem_of_getElem? (i := 56) rfl))) Via.refl e6 F10 F8 (Or.inr ⟨(hw _ (List.mem_of_getElem? (i := 57) rfl)), rfl, hnm⟩) (hw _ (List.mem_of_getElem? (i := 35) rfl)) (ty := (.array .byte)) (by decide) rfl rfl (g := (mkF m 11 #[.val (.ref a), .val (.ref s1), .val (.ref s2)] [(.ref s2), (.ref a)])) rfl rfl (hb hby own_d8_11)
  have S15 : ∀ t, Steps p.tables e below (T14.setTop (mkF m 14 #[.val (.ref a), .val (.ref s1), .val (.ref s2)] [])) t → Steps p.tables e below (s₁.setTop (entryFrame m #[(.ref a), (.ref s1), (.ref s2)] 3)) t := fun t kt => S13 t (st14 _ kt)
  have F16 := F8.wr W14
  have F17 := F9.other W14 (Or.inr (slot_ne (Or.inr (hw _ (List.mem_of_getElem? (i := 55) rfl))) (Or.inr (hw _ (List.mem_of_getElem? (i := 57) rfl))) (by decide) (t := (.object "java/lang/String")) (t' := (.array .byte)) (by decide) (by decide)))
  have F18 := F10.same W14
  have N19 := Fr.snoc X14 N11 g_a
  have K20 : Keep h0 h14 [a] := K12.wr W14 (Or.inl (List.mem_of_getElem? (i := 0) rfl))
  obtain ⟨fs, hr, hrun, hended, hW, hsame⟩ := X14.leave (v := none) (fun _ => rfl)
  refine ⟨_, _, S15 _ ?_, hrun, hended, _, _, rfl, ?_, ⟨_, rfl⟩, hW, hsame.mono (by decide) (by decide)⟩
  · show Steps p.tables e below (T14.setTop (mkF m 14 #[.val (.ref a), .val (.ref s1), .val (.ref s2)] [])) _
    exact X14.returnOut hx Bd.returns (hb hby own_d8_14) hr
  · show own_Q8 Z a s1 s2 u0 u1 h0 n0 _ T14.heap _
    rw [e14]
    exact ⟨rfl, N19, K20, F16, F17, F18⟩
theorem own_d5_0 : decode jdk_52_method_21_code 0 = .ok (.iconst 0, 1) := by decide +kernel
theorem own_d5_1 : decode jdk_52_method_21_code 1 = .ok (.istore 5, 2) := by decide +kernel
theorem own_d5_3 : decode jdk_52_method_21_code 3 = .ok (.iload 5, 2) := by decide +kernel
theorem own_d5_5 : decode jdk_52_method_21_code 5 = .ok (.iload 4, 2) := by decide +kernel
theorem own_d5_7 : decode jdk_52_method_21_code 7 = .ok (.if_icmp .ge 37, 3) := by decide +kernel
theorem own_d5_10 : decode jdk_52_method_21_code 10 = .ok (.aload_n 0, 1) := by decide +kernel
theorem own_d5_11 : decode jdk_52_method_21_code 11 = .ok (.iload_n 1, 1) := by decide +kernel
theorem own_d5_12 : decode jdk_52_method_21_code 12 = .ok (.caload, 1) := by decide +kernel
theorem own_d5_13 : decode jdk_52_method_21_code 13 = .ok (.istore 6, 2) := by decide +kernel
theorem own_d5_15 : decode jdk_52_method_21_code 15 = .ok (.iload 6, 2) := by decide +kernel
theorem own_d5_17 : decode jdk_52_method_21_code 17 = .ok (.sipush 255, 3) := by decide +kernel
theorem own_d5_20 : decode jdk_52_method_21_code 20 = .ok (.if_icmp .le 6, 3) := by decide +kernel
theorem own_d5_26 : decode jdk_52_method_21_code 26 = .ok (.aload_n 2, 1) := by decide +kernel
theorem own_d5_27 : decode jdk_52_method_21_code 27 = .ok (.iload_n 3, 1) := by decide +kernel
theorem own_d5_28 : decode jdk_52_method_21_code 28 = .ok (.iload 6, 2) := by decide +kernel
theorem own_d5_30 : decode jdk_52_method_21_code 30 = .ok (.i2b, 1) := by decide +kernel
theorem own_d5_31 : decode jdk_52_method_21_code 31 = .ok (.bastore, 1) := by decide +kernel
theorem own_d5_32 : decode jdk_52_method_21_code 32 = .ok (.iinc 1 1, 3) := by decide +kernel
theorem own_d5_35 : decode jdk_52_method_21_code 35 = .ok (.iinc 3 1, 3) := by decide +kernel
theorem own_d5_38 : decode jdk_52_method_21_code 38 = .ok (.iinc 5 1, 3) := by decide +kernel
theorem own_d5_41 : decode jdk_52_method_21_code 41 = .ok (.goto (-38), 3) := by decide +kernel
theorem own_d5_44 : decode jdk_52_method_21_code 44 = .ok (.iload 4, 2) := by decide +kernel
theorem own_d5_46 : decode jdk_52_method_21_code 46 = .ok (.ireturn, 1) := by decide +kernel
theorem own_ef5k1 (m : MethodId) (x0 : Addr) (x1 : Int32) (x2 : Addr) (x3 : Int32) (x4 : Int32) : entryFrame m #[(.ref x0), (.int x1), (.ref x2), (.int x3), (.int x4)] 7 = mkF m 0 #[.val (.ref x0), .val (.int x1), .val (.ref x2), .val (.int x3), .val (.int x4), .unset, .unset] [] := by first | (simp [entryFrame, mkF, argsToLocals, Value.category]; done) | rfl
def own_Q5k1 (Z : State) (b : Addr) (tb : Addr) (c0 : Int32) (kb : ClassId) (kt : ClassId) (h0 : Heap) (n0 : Nat) (v : Option Value) (h : Heap) (L : List Loc) : Prop := v = some (.int (1 : Int32)) ∧ Fr n0 L ∧ Keep h0 h [tb] ∧ Arv Z h tb kt .byte (1 : Int32) [(.int (own_lo c0))] (.int (0 : Int32))
theorem own_pn2 : plainName "java/lang/StringUTF16" = true := by first | (simp [plainName, overriddenIn]; done) | decide +kernel
set_option maxHeartbeats 40000000 in
theorem own_rm5k1 (l : Launch) (Z : State) (a0 : Array Value) (hw : ∀ d ∈ tables_1, d.before a0 Z = true) (ws : List Jvm.Cond) (b : Addr) (tb : Addr) (c0 : Int32) (kb : ClassId) (kt : ClassId) (h0 : Heap) (n0 : Nat) (Z0 : n0 ≤ h0.size) (V_b : Arv Z h0 b kb .char (1 : Int32) [(.int c0)] (.int (0 : Int32))) (V_t : Arv Z h0 tb kt .byte (1 : Int32) [(.int (0 : Int32))] (.int (0 : Int32))) (g_tb : n0 ≤ tb) (ne_b_tb : b ≠ tb) (hl0 : ¬ (255 : Int32) < c0) :
    MetFree l (⟨"java/lang/StringUTF16", "compress", "([CI[BII)I"⟩ : MethodName) (head1 (Jvm.Cond.code (⟨"java/lang/StringUTF16", "compress", "([CI[BII)I"⟩ : MethodName) jdk_52_method_21_code 7 (some .int) :: ws) ({ frames := 0, cells := 0, slots := 0, locals := 0 } : Room)) (fun argv U => argv = #[(.ref b), (.int (0 : Int32)), (.ref tb), (.int (0 : Int32)), (.int (1 : Int32))] ∧ Z.Warmed39 U.vm ∧ U.heap = h0) (fun _ _ _ _ _ => True) (fun _ U o U' => ∃ v L, o = .returned v ∧ own_Q5k1 Z b tb c0 kb kt h0 n0 v U'.heap L ∧ FrameEnd U o U' L ({ frames := 0, cells := 0, slots := 0, locals := 0 } : Room).cells ({ frames := 0, cells := 0, slots := 0, locals := 0 } : Room).slots) := by
  refine MetFree.of_bodySF (plainFor_of_name own_pn2) hisR ?_
  intro p e s m args below meth c s₁ Bd hml0 hP hK
  obtain ⟨rfl, hZ, hh⟩ := hP
  have hx := Bd.exec
  have hby := Bd.bytes
  have hml : c.maxLocals = 7 := hml0
  have hown : s.vm.findClass "java/lang/StringUTF16" = some m.cls := findClass_of_methodNamed Bd.named
  have hnm := (name_of_methodNamed Bd.named Bd.method).1
  have X0 : Stand p l e ({ frames := 0, cells := 0, slots := 0, locals := 0 } : Room) s m #[(.ref b), (.int (0 : Int32)), (.ref tb), (.int (0 : Int32)), (.int (1 : Int32))] below meth c s₁ [] 0 0 := Stand.of_body Bd
  have e0 : s₁.heap = h0 := by rw [← hh, Bd.state]; rfl
  have N0 := Fr.nil n0
  have pre0 : ∀ t, Steps p.tables e below (s₁.setTop (mkF m 0 #[.val (.ref b), .val (.int (0 : Int32)), .val (.ref tb), .val (.int (0 : Int32)), .val (.int (1 : Int32)), .unset, .unset] [])) t → Steps p.tables e below (s₁.setTop (entryFrame m #[(.ref b), (.int (0 : Int32)), (.ref tb), (.int (0 : Int32)), (.int (1 : Int32))] 7)) t := fun t k => castTop (own_ef5k1 m b (0 : Int32) tb (0 : Int32) (1 : Int32)) k
  have S1 : ∀ t, Steps p.tables e below (s₁.setTop (mkF m 7 #[.val (.ref b), .val (.int (0 : Int32)), .val (.ref tb), .val (.int (0 : Int32)), .val (.int (1 : Int32)), .val (.int (0 : Int32)), .unset] [(.int (1 : Int32)), (.int (0 : Int32))])) t → Steps p.tables e below (s₁.setTop (entryFrame m #[(.ref b), (.int (0 : Int32)), (.ref tb), (.int (0 : Int32)), (.int (1 : Int32))] 7)) t := fun t kt => by
    refine pre0 t ?_
    show Steps p.tables e below (s₁.setTop (mkF m 0 #[.val (.ref b), .val (.int (0 : Int32)), .val (.ref tb), .val (.int (0 : Int32)), .val (.int (1 : Int32)), .unset, .unset] [])) t
    refine XS.iconst X0.here hx rfl (hb hby own_d5_0) ?_
    refine XS.istore X0.here hx rfl (hb hby own_d5_1) rfl (l' := #[.val (.ref b), .val (.int (0 : Int32)), .val (.ref tb), .val (.int (0 : Int32)), .val (.int (1 : Int32)), .val (.int (0 : Int32)), .unset]) rfl ?_
    refine XS.iload X0.here hx rfl (hb hby own_d5_3) rfl ?_
    refine XS.iload X0.here hx rfl (hb hby own_d5_5) rfl ?_
    exact kt
  have hc7_2 : (0 : Int32) < (1 : Int32) := by decide
  have S4 : ∀ t, Steps p.tables e below (s₁.setTop (mkF m 12 #[.val (.ref b), .val (.int (0 : Int32)), .val (.ref tb), .val (.int (0 : Int32)), .val (.int (1 : Int32)), .val (.int (0 : Int32)), .unset] [(.int (0 : Int32)), (.ref b)])) t → Steps p.tables e below (s₁.setTop (entryFrame m #[(.ref b), (.int (0 : Int32)), (.ref tb), (.int (0 : Int32)), (.int (1 : Int32))] 7)) t := fun t kt => by
    refine S1 t ?_
    show Steps p.tables e below (s₁.setTop (mkF m 7 #[.val (.ref b), .val (.int (0 : Int32)), .val (.ref tb), .val (.int (0 : Int32)), .val (.int (1 : Int32)), .val (.int (0 : Int32)), .unset] [(.int (1 : Int32)), (.int (0 : Int32))])) t
    refine XS.icmpNo X0.here hx rfl (hb hby own_d5_7) rfl (tlt hc7_2).2.1 ?_
    refine XS.aloadN X0.here hx rfl (hb hby own_d5_10) rfl rfl ?_
    refine XS.iloadN X0.here hx rfl (hb hby own_d5_11) rfl ?_
    exact kt
  obtain ⟨cl3, Ar3, -, Sz3, Nn3, Hh3, -⟩ := id V_b
  have hin3 : ¬ ((0 : Int32) < 0 ∨ cl3.slots.size ≤ ((0 : Int32)).toNatClampNeg) := inb_of Sz3 ⟨by decide, by decide⟩
  have S5 : ∀ t, Steps p.tables e below (s₁.setTop (mkF m 20 #[.val (.ref b), .val (.int (0 : Int32)), .val (.ref tb), .val (.int (0 : Int32)), .val (.int (1 : Int32)), .val (.int (0 : Int32)), .val (.int c0)] [(.int (255 : Int32)), (.int c0)])) t → Steps p.tables e below (s₁.setTop (entryFrame m #[(.ref b), (.int (0 : Int32)), (.ref tb), (.int (0 : Int32)), (.int (1 : Int32))] 7)) t := fun t kt => by
    refine S4 t ?_
    show Steps p.tables e below (s₁.setTop (mkF m 12 #[.val (.ref b), .val (.int (0 : Int32)), .val (.ref tb), .val (.int (0 : Int32)), .val (.int (1 : Int32)), .val (.int (0 : Int32)), .unset] [(.int (0 : Int32)), (.ref b)])) t
    refine X0.caload hx (j := (0 : Int32)) (v := (.int c0)) (by rw [e0]; exact Ar3.1) (State.isArrayOf_alike hZ.alike Ar3.2.1) Ar3.2.2 hin3 (Has.at Hh3 hin3 rfl) (g := (mkF m 12 #[.val (.ref b), .val (.int (0 : Int32)), .val (.ref tb), .val (.int (0 : Int32)), .val (.int (1 : Int32)), .val (.int (0 : Int32)), .unset] [(.int (0 : Int32)), (.ref b)])) rfl rfl (hb hby own_d5_12) _ ?_
    show Steps p.tables e below (s₁.setTop (mkF m 13 #[.val (.ref b), .val (.int (0 : Int32)), .val (.ref tb), .val (.int (0 : Int32)), .val (.int (1 : Int32)), .val (.int (0 : Int32)), .unset] [(.int c0)])) t
    refine XS.istore X0.here hx rfl (hb hby own_d5_13) rfl (l' := #[.val (.ref b), .val (.int (0 : Int32)), .val (.ref tb), .val (.int (0 : Int32)), .val (.int (1 : Int32)), .val (.int (0 : Int32)), .val (.int c0)]) rfl ?_
    refine XS.iload X0.here hx rfl (hb hby own_d5_15) rfl ?_
    refine XS.sipush X0.here hx rfl (hb hby own_d5_17) ?_
    exact kt
  have hc20_6 : ¬ ((255 : Int32) < c0) := hl0
  have S7 : ∀ t, Steps p.tables e below (s₁.setTop (mkF m 31 #[.val (.ref b), .val (.int (0 : Int32)), .val (.ref tb), .val (.int (0 : Int32)), .val (.int (1 : Int32)), .val (.int (0 : Int32)), .val (.int c0)] [(.int (c0.toInt8.toInt32)), (.int (0 : Int32)), (.ref tb)])) t → Steps p.tables e below (s₁.setTop (entryFrame m #[(.ref b), (.int (0 : Int32)), (.ref tb), (.int (0 : Int32)), (.int (1 : Int32))] 7)) t := fun t kt => by
    refine S5 t ?_
    show Steps p.tables e below (s₁.setTop (mkF m 20 #[.val (.ref b), .val (.int (0 : Int32)), .val (.ref tb), .val (.int (0 : Int32)), .val (.int (1 : Int32)), .val (.int (0 : Int32)), .val (.int c0)] [(.int (255 : Int32)), (.int c0)])) t
    refine XS.icmpYes X0.here hx rfl (pc0 := 20) (pc' := 26) rfl (hb hby own_d5_20) rfl (flt hc20_6).2.2.2 (by decide) (by decide) ?_
    refine XS.aloadN X0.here hx rfl (hb hby own_d5_26) rfl rfl ?_
    refine XS.iloadN X0.here hx rfl (hb hby own_d5_27) rfl ?_
    refine XS.iload X0.here hx rfl (hb hby own_d5_28) rfl ?_
    refine XS.i2b X0.here hx rfl (hb hby own_d5_30) rfl ?_
    exact kt
  obtain ⟨cl8, Ar8, q8, Sz8, Nn8, Hh8, Gg8⟩ := id V_t
  have hin8 : ¬ ((0 : Int32) < 0 ∨ cl8.slots.size ≤ ((0 : Int32)).toNatClampNeg) := inb_of Sz8 ⟨by decide, by decide⟩
  obtain ⟨T9, h9, X9, e9, W9, st9⟩ := stB X0 hx hZ e0 Ar8 (j := (0 : Int32)) hin8 (g := (mkF m 31 #[.val (.ref b), .val (.int (0 : Int32)), .val (.ref tb), .val (.int (0 : Int32)), .val (.int (1 : Int32)), .val (.int (0 : Int32)), .val (.int c0)] [(.int (c0.toInt8.toInt32)), (.int (0 : Int32)), (.ref tb)])) rfl rfl (hb hby own_d5_31)
  have S10 : ∀ t, Steps p.tables e below (T9.setTop (mkF m 32 #[.val (.ref b), .val (.int (0 : Int32)), .val (.ref tb), .val (.int (0 : Int32)), .val (.int (1 : Int32)), .val (.int (0 : Int32)), .val (.int c0)] [])) t → Steps p.tables e below (s₁.setTop (entryFrame m #[(.ref b), (.int (0 : Int32)), (.ref tb), (.int (0 : Int32)), (.int (1 : Int32))] 7)) t := fun t kt => S7 t (st9 _ kt)
  have V11 := Arv.set Ar8 q8 Sz8 Nn8 Hh8 Gg8 (fits_nar_byte _) W9 0 rfl (Nat.le_of_ble_eq_true rfl)
  have F12 := V_b.other W9 ne_b_tb
  have N13 := Fr.snoc X9 N0 g_tb
  have K14 : Keep h0 h9 [tb] := (Keep.refl h0 [tb]).wr W9 (Or.inl (List.mem_of_getElem? (i := 0) rfl))
  have S15 : ∀ t, Steps p.tables e below (T9.setTop (mkF m 7 #[.val (.ref b), .val (.int (1 : Int32)), .val (.ref tb), .val (.int (1 : Int32)), .val (.int (1 : Int32)), .val (.int (1 : Int32)), .val (.int c0)] [(.int (1 : Int32)), (.int (1 : Int32))])) t → Steps p.tables e below (s₁.setTop (entryFrame m #[(.ref b), (.int (0 : Int32)), (.ref tb), (.int (0 : Int32)), (.int (1 : Int32))] 7)) t := fun t kt => by
    refine S10 t ?_
    show Steps p.tables e below (T9.setTop (mkF m 32 #[.val (.ref b), .val (.int (0 : Int32)), .val (.ref tb), .val (.int (0 : Int32)), .val (.int (1 : Int32)), .val (.int (0 : Int32)), .val (.int c0)] [])) t
    refine XS.iinc X9.here hx rfl (hb hby own_d5_32) rfl (l' := #[.val (.ref b), .val (.int (1 : Int32)), .val (.ref tb), .val (.int (0 : Int32)), .val (.int (1 : Int32)), .val (.int (0 : Int32)), .val (.int c0)]) rfl ?_
    refine XS.iinc X9.here hx rfl (hb hby own_d5_35) rfl (l' := #[.val (.ref b), .val (.int (1 : Int32)), .val (.ref tb), .val (.int (1 : Int32)), .val (.int (1 : Int32)), .val (.int (0 : Int32)), .val (.int c0)]) rfl ?_
    refine XS.iinc X9.here hx rfl (hb hby own_d5_38) rfl (l' := #[.val (.ref b), .val (.int (1 : Int32)), .val (.ref tb), .val (.int (1 : Int32)), .val (.int (1 : Int32)), .val (.int (1 : Int32)), .val (.int c0)]) rfl ?_
    refine XS.goto X9.here hx rfl (pc0 := 41) (pc' := 3) rfl (hb hby own_d5_41) (by decide) (by decide) ?_
    refine XS.iload X9.here hx rfl (hb hby own_d5_3) rfl ?_
    refine XS.iload X9.here hx rfl (hb hby own_d5_5) rfl ?_
    exact kt
  have hc7_16 : ¬ ((1 : Int32) < (1 : Int32)) := by decide
  have S17 : ∀ t, Steps p.tables e below (T9.setTop (mkF m 46 #[.val (.ref b), .val (.int (1 : Int32)), .val (.ref tb), .val (.int (1 : Int32)), .val (.int (1 : Int32)), .val (.int (1 : Int32)), .val (.int c0)] [(.int (1 : Int32))])) t → Steps p.tables e below (s₁.setTop (entryFrame m #[(.ref b), (.int (0 : Int32)), (.ref tb), (.int (0 : Int32)), (.int (1 : Int32))] 7)) t := fun t kt => by
    refine S15 t ?_
    show Steps p.tables e below (T9.setTop (mkF m 7 #[.val (.ref b), .val (.int (1 : Int32)), .val (.ref tb), .val (.int (1 : Int32)), .val (.int (1 : Int32)), .val (.int (1 : Int32)), .val (.int c0)] [(.int (1 : Int32)), (.int (1 : Int32))])) t
    refine XS.icmpYes X9.here hx rfl (pc0 := 7) (pc' := 44) rfl (hb hby own_d5_7) rfl (flt hc7_16).2.1 (by decide) (by decide) ?_
    refine XS.iload X9.here hx rfl (hb hby own_d5_44) rfl ?_
    exact kt
  obtain ⟨fs, hr, hrun, hended, hW, hsame⟩ := X9.leave (v := some (.int (1 : Int32))) (fun h => by rw [Bd.returns] at h; cases h)
  refine ⟨_, _, S17 _ ?_, hrun, hended, _, _, rfl, ?_, ⟨_, rfl⟩, hW, hsame.mono (by decide) (by decide)⟩
  · show Steps p.tables e below (T9.setTop (mkF m 46 #[.val (.ref b), .val (.int (1 : Int32)), .val (.ref tb), .val (.int (1 : Int32)), .val (.int (1 : Int32)), .val (.int (1 : Int32)), .val (.int c0)] [(.int (1 : Int32))])) _
    exact own_retI X9 hx Bd.returns (hb hby own_d5_46) hr
  · show own_Q5k1 Z b tb c0 kb kt h0 n0 _ T9.heap _
    rw [e9]
    exact ⟨rfl, N13, K14, (by have q : Arv Z h9 tb kt .byte (1 : Int32) [(.int (nar .byte (c0.toInt8.toInt32)))] (.int (0 : Int32)) := V11; simp only [own_lolo] at q; exact q)⟩
theorem own_d6_0 : decode jdk_52_method_15_code 0 = .ok (.iload_n 1, 1) := by decide +kernel
theorem own_d6_1 : decode jdk_52_method_15_code 1 = .ok (.aload_n 0, 1) := by decide +kernel
theorem own_d6_2 : decode jdk_52_method_15_code 2 = .ok (.arraylength, 1) := by decide +kernel
theorem own_d6_3 : decode jdk_52_method_15_code 3 = .ok (.isub, 1) := by decide +kernel
theorem own_d6_4 : decode jdk_52_method_15_code 4 = .ok (.bipush 31, 2) := by decide +kernel
theorem own_d6_6 : decode jdk_52_method_15_code 6 = .ok (.iushr, 1) := by decide +kernel
theorem own_d6_7 : decode jdk_52_method_15_code 7 = .ok (.i2b, 1) := by decide +kernel
theorem own_d6_8 : decode jdk_52_method_15_code 8 = .ok (.ireturn, 1) := by decide +kernel
theorem own_ef6k1 (m : MethodId) (x0 : Addr) (x1 : Int32) : entryFrame m #[(.ref x0), (.int x1)] 2 = mkF m 0 #[.val (.ref x0), .val (.int x1)] [] := by first | (simp [entryFrame, mkF, argsToLocals, Value.category]; done) | rfl
def own_Q6k1 (Z : State) (tb : Addr) (c0 : Int32) (kt : ClassId) (h0 : Heap) (n0 : Nat) (v : Option Value) (h : Heap) (L : List Loc) : Prop := v = some (.int (0 : Int32)) ∧ L = [] ∧ h = h0
set_option maxHeartbeats 40000000 in
theorem own_rm6k1 (l : Launch) (Z : State) (a0 : Array Value) (hw : ∀ d ∈ tables_1, d.before a0 Z = true) (ws : List Jvm.Cond) (tb : Addr) (c0 : Int32) (kt : ClassId) (h0 : Heap) (n0 : Nat) (Z0 : n0 ≤ h0.size) (V_t : Arv Z h0 tb kt .byte (1 : Int32) [(.int (own_lo c0))] (.int (0 : Int32))) :
    MetFree l (⟨"java/lang/StringUTF16", "coderFromArrayLen", "([BI)B"⟩ : MethodName) (head1 (Jvm.Cond.code (⟨"java/lang/StringUTF16", "coderFromArrayLen", "([BI)B"⟩ : MethodName) jdk_52_method_15_code 2 (some .byte) :: ws) ({ frames := 0, cells := 0, slots := 0, locals := 0 } : Room)) (fun argv U => argv = #[(.ref tb), (.int (1 : Int32))] ∧ Z.Warmed39 U.vm ∧ U.heap = h0) (fun _ _ _ _ _ => True) (fun _ U o U' => ∃ v L, o = .returned v ∧ own_Q6k1 Z tb c0 kt h0 n0 v U'.heap L ∧ FrameEnd U o U' L ({ frames := 0, cells := 0, slots := 0, locals := 0 } : Room).cells ({ frames := 0, cells := 0, slots := 0, locals := 0 } : Room).slots) := by
  refine MetFree.of_bodySF (plainFor_of_name own_pn2) hisR ?_
  intro p e s m args below meth c s₁ Bd hml0 hP hK
  obtain ⟨rfl, hZ, hh⟩ := hP
  have hx := Bd.exec
  have hby := Bd.bytes
  have hml : c.maxLocals = 2 := hml0
  have hown : s.vm.findClass "java/lang/StringUTF16" = some m.cls := findClass_of_methodNamed Bd.named
  have hnm := (name_of_methodNamed Bd.named Bd.method).1
  have X0 : Stand p l e ({ frames := 0, cells := 0, slots := 0, locals := 0 } : Room) s m #[(.ref tb), (.int (1 : Int32))] below meth c s₁ [] 0 0 := Stand.of_body Bd
  have e0 : s₁.heap = h0 := by rw [← hh, Bd.state]; rfl
  have N0 := Fr.nil n0
  have pre0 : ∀ t, Steps p.tables e below (s₁.setTop (mkF m 0 #[.val (.ref tb), .val (.int (1 : Int32))] [])) t → Steps p.tables e below (s₁.setTop (entryFrame m #[(.ref tb), (.int (1 : Int32))] 2)) t := fun t k => castTop (own_ef6k1 m tb (1 : Int32)) k
  have S1 : ∀ t, Steps p.tables e below (s₁.setTop (mkF m 2 #[.val (.ref tb), .val (.int (1 : Int32))] [(.ref tb), (.int (1 : Int32))])) t → Steps p.tables e below (s₁.setTop (entryFrame m #[(.ref tb), (.int (1 : Int32))] 2)) t := fun t kt => by
    refine pre0 t ?_
    show Steps p.tables e below (s₁.setTop (mkF m 0 #[.val (.ref tb), .val (.int (1 : Int32))] [])) t
    refine XS.iloadN X0.here hx rfl (hb hby own_d6_0) rfl ?_
    refine XS.aloadN X0.here hx rfl (hb hby own_d6_1) rfl rfl ?_
    exact kt
  obtain ⟨cl2, Ar2, -, Sz2, Nn2, -, -⟩ := id V_t
  have S3 : ∀ t, Steps p.tables e below (s₁.setTop (mkF m 8 #[.val (.ref tb), .val (.int (1 : Int32))] [(.int ((((0 : Int32).toUInt32 >>> ((31 : Int32) &&& 31).toUInt32).toInt32).toInt8.toInt32))])) t → Steps p.tables e below (s₁.setTop (entryFrame m #[(.ref tb), (.int (1 : Int32))] 2)) t := fun t kt => by
    refine S1 t ?_
    show Steps p.tables e below (s₁.setTop (mkF m 2 #[.val (.ref tb), .val (.int (1 : Int32))] [(.ref tb), (.int (1 : Int32))])) t
    refine X0.arraylength hx (by rw [e0]; exact Ar2.1) (State.isArrayOf_alike hZ.alike Ar2.2.1) (g := (mkF m 2 #[.val (.ref tb), .val (.int (1 : Int32))] [(.ref tb), (.int (1 : Int32))])) rfl rfl (hb hby own_d6_2) _ ?_
    rw [len_of Sz2 Nn2]
    show Steps p.tables e below (s₁.setTop (mkF m 3 #[.val (.ref tb), .val (.int (1 : Int32))] [(.int (1 : Int32)), (.int (1 : Int32))])) t
    refine XS.isub X0.here hx rfl (hb hby own_d6_3) rfl ?_
    refine XS.bipush X0.here hx rfl (hb hby own_d6_4) ?_
    refine XS.iushr X0.here hx rfl (hb hby own_d6_6) rfl ?_
    refine XS.i2b X0.here hx rfl (hb hby own_d6_7) rfl ?_
    exact kt
  obtain ⟨fs, hr, hrun, hended, hW, hsame⟩ := X0.leave (v := some (.int (nar .byte ((((0 : Int32).toUInt32 >>> ((31 : Int32) &&& 31).toUInt32).toInt32).toInt8.toInt32)))) (fun h => by rw [Bd.returns] at h; cases h)
  refine ⟨_, _, S3 _ ?_, hrun, hended, _, _, rfl, ?_, ⟨_, rfl⟩, hW, hsame.mono (by decide) (by decide)⟩
  · show Steps p.tables e below (s₁.setTop (mkF m 8 #[.val (.ref tb), .val (.int (1 : Int32))] [(.int ((((0 : Int32).toUInt32 >>> ((31 : Int32) &&& 31).toUInt32).toInt32).toInt8.toInt32))])) _
    exact retN X0 hx (t := .byte) Bd.returns (by simp) (hb hby own_d6_8) hr
  · show own_Q6k1 Z tb c0 kt h0 n0 _ s₁.heap _
    rw [e0]
    exact ⟨rfl, rfl, rfl⟩
theorem own_pd1 : parseMethodDescriptor "([CI[BII)I" = some ⟨[(.array .char), .int, (.array .byte), .int, .int], some .int⟩ := by decide +kernel
theorem own_d4_0 : decode jdk_52_method_16_code 0 = .ok (.iload_n 2, 1) := by decide +kernel
theorem own_d4_1 : decode jdk_52_method_16_code 1 = .ok (.newarray .byte, 2) := by decide +kernel
theorem own_d4_3 : decode jdk_52_method_16_code 3 = .ok (.astore_n 3, 1) := by decide +kernel
theorem own_d4_4 : decode jdk_52_method_16_code 4 = .ok (.aload_n 0, 1) := by decide +kernel
theorem own_d4_5 : decode jdk_52_method_16_code 5 = .ok (.iload_n 1, 1) := by decide +kernel
theorem own_d4_6 : decode jdk_52_method_16_code 6 = .ok (.aload_n 3, 1) := by decide +kernel
theorem own_d4_7 : decode jdk_52_method_16_code 7 = .ok (.iconst 0, 1) := by decide +kernel
theorem own_d4_8 : decode jdk_52_method_16_code 8 = .ok (.iload_n 2, 1) := by decide +kernel
theorem own_d4_9 : decode jdk_52_method_16_code 9 = .ok (.invokestatic 115, 3) := by decide +kernel
theorem own_d4_12 : decode jdk_52_method_16_code 12 = .ok (.istore 4, 2) := by decide +kernel
theorem own_d4_14 : decode jdk_52_method_16_code 14 = .ok (.iload 4, 2) := by decide +kernel
theorem own_d4_16 : decode jdk_52_method_16_code 16 = .ok (.iload_n 2, 1) := by decide +kernel
theorem own_d4_17 : decode jdk_52_method_16_code 17 = .ok (.if_icmp .eq 40, 3) := by decide +kernel
theorem own_d4_57 : decode jdk_52_method_16_code 57 = .ok (.aload_n 3, 1) := by decide +kernel
theorem own_d4_58 : decode jdk_52_method_16_code 58 = .ok (.areturn, 1) := by decide +kernel
theorem own_ef4k1 (m : MethodId) (x0 : Addr) (x1 : Int32) (x2 : Int32) : entryFrame m #[(.ref x0), (.int x1), (.int x2)] 6 = mkF m 0 #[.val (.ref x0), .val (.int x1), .val (.int x2), .unset, .unset, .unset] [] := by first | (simp [entryFrame, mkF, argsToLocals, Value.category]; done) | rfl
def own_Q4k1 (Z : State) (b : Addr) (c0 : Int32) (kb : ClassId) (h0 : Heap) (n0 : Nat) (v : Option Value) (h : Heap) (L : List Loc) : Prop := ∃ (tb : Addr) (kt : ClassId), v = some (.ref tb) ∧ Fr n0 L ∧ n0 ≤ tb ∧ h0.size ≤ tb ∧ Keep h0 h [] ∧ Arv Z h tb kt .byte (1 : Int32) [(.int (own_lo c0))] (.int (0 : Int32))
set_option maxHeartbeats 40000000 in
theorem own_rm4k1 (l : Launch) (Z : State) (a0 : Array Value) (hw : ∀ d ∈ tables_1, d.before a0 Z = true) (ws : List Jvm.Cond) (b : Addr) (c0 : Int32) (kb : ClassId) (h0 : Heap) (n0 : Nat) (Z0 : n0 ≤ h0.size) (V_b : Arv Z h0 b kb .char (1 : Int32) [(.int c0)] (.int (0 : Int32))) (hl0 : ¬ (255 : Int32) < c0) :
    MetFree l (⟨"java/lang/StringUTF16", "compress", "([CII)[B"⟩ : MethodName) (head1 (Jvm.Cond.code (⟨"java/lang/StringUTF16", "compress", "([CII)[B"⟩ : MethodName) jdk_52_method_16_code 6 (some (.array .byte)) :: ws) ({ frames := 1, cells := 1, slots := 1, locals := 18 } : Room)) (fun argv U => argv = #[(.ref b), (.int (0 : Int32)), (.int (1 : Int32))] ∧ Z.Warmed39 U.vm ∧ U.heap = h0) (fun _ _ _ _ _ => True) (fun _ U o U' => ∃ v L, o = .returned v ∧ own_Q4k1 Z b c0 kb h0 n0 v U'.heap L ∧ FrameEnd U o U' L ({ frames := 1, cells := 1, slots := 1, locals := 18 } : Room).cells ({ frames := 1, cells := 1, slots := 1, locals := 18 } : Room).slots) := by
  refine MetFree.of_bodySF (plainFor_of_name own_pn2) hisR ?_
  intro p e s m args below meth c s₁ Bd hml0 hP hK
  obtain ⟨rfl, hZ, hh⟩ := hP
  have hx := Bd.exec
  have hby := Bd.bytes
  have hml : c.maxLocals = 6 := hml0
  have hown : s.vm.findClass "java/lang/StringUTF16" = some m.cls := findClass_of_methodNamed Bd.named
  have hnm := (name_of_methodNamed Bd.named Bd.method).1
  have X0 : Stand p l e ({ frames := 1, cells := 1, slots := 1, locals := 18 } : Room) s m #[(.ref b), (.int (0 : Int32)), (.int (1 : Int32))] below meth c s₁ [] 0 0 := Stand.of_body Bd
  have e0 : s₁.heap = h0 := by rw [← hh, Bd.state]; rfl
  have N0 := Fr.nil n0
  have pre0 : ∀ t, Steps p.tables e below (s₁.setTop (mkF m 0 #[.val (.ref b), .val (.int (0 : Int32)), .val (.int (1 : Int32)), .unset, .unset, .unset] [])) t → Steps p.tables e below (s₁.setTop (entryFrame m #[(.ref b), (.int (0 : Int32)), (.int (1 : Int32))] 6)) t := fun t k => castTop (own_ef4k1 m b (0 : Int32) (1 : Int32)) k
  have S1 : ∀ t, Steps p.tables e below (s₁.setTop (mkF m 1 #[.val (.ref b), .val (.int (0 : Int32)), .val (.int (1 : Int32)), .unset, .unset, .unset] [(.int (1 : Int32))])) t → Steps p.tables e below (s₁.setTop (entryFrame m #[(.ref b), (.int (0 : Int32)), (.int (1 : Int32))] 6)) t := fun t kt => by
    refine pre0 t ?_
    show Steps p.tables e below (s₁.setTop (mkF m 0 #[.val (.ref b), .val (.int (0 : Int32)), .val (.int (1 : Int32)), .unset, .unset, .unset] [])) t
    refine XS.iloadN X0.here hx rfl (hb hby own_d4_0) rfl ?_
    exact kt
  obtain ⟨T2, h2, k2, X2, e2, E2, A2, st2⟩ := newP X0 hx hZ (hw _ (List.mem_of_getElem? (i := 19) rfl)) e0 (g := (mkF m 1 #[.val (.ref b), .val (.int (0 : Int32)), .val (.int (1 : Int32)), .unset, .unset, .unset] [(.int (1 : Int32))])) rfl (hb hby own_d4_1) rfl (by decide) (cap := 1) (by decide) (by decide) (by decide) (by decide)
  obtain ⟨b2, g2⟩ : ∃ z, z = h0.size := ⟨_, rfl⟩
  rw [← g2] at A2 st2
  have S3 : ∀ t, Steps p.tables e below (T2.setTop (mkF m 3 #[.val (.ref b), .val (.int (0 : Int32)), .val (.int (1 : Int32)), .unset, .unset, .unset] [(.ref b2)])) t → Steps p.tables e below (s₁.setTop (entryFrame m #[(.ref b), (.int (0 : Int32)), (.int (1 : Int32))] 6)) t := fun t kt => S1 t (st2 _ kt)
  have g_b2 : n0 ≤ b2 := Nat.le_trans Z0 (Nat.le_of_eq g2.symm)
  have sz_b2 : h0.size ≤ b2 := Nat.le_trans (Keep.refl h0 []).1 (Nat.le_of_eq g2.symm)
  have ne_b_b2 : b ≠ b2 := Nat.ne_of_lt (Nat.lt_of_lt_of_le V_b.lt (Nat.le_of_eq g2.symm))
  have F4 := V_b.ext E2
  have K5 : Keep h0 h2 [] := (Keep.refl h0 []).ext E2
  have V6 : Arv Z h2 b2 k2 .byte (1 : Int32) [(.int (0 : Int32))] (.int (0 : Int32)) := (Arv.new A2 (by decide)).pad (pad_rep [] (.int (0 : Int32)) 1)
  have S9 : ∀ t, Steps p.tables e below (T2.setTop (mkF m 9 #[.val (.ref b), .val (.int (0 : Int32)), .val (.int (1 : Int32)), .val (.ref b2), .unset, .unset] [(.int (1 : Int32)), (.int (0 : Int32)), (.ref b2), (.int (0 : Int32)), (.ref b)])) t → Steps p.tables e below (s₁.setTop (entryFrame m #[(.ref b), (.int (0 : Int32)), (.int (1 : Int32))] 6)) t := fun t kt => by
    refine S3 t ?_
    show Steps p.tables e below (T2.setTop (mkF m 3 #[.val (.ref b), .val (.int (0 : Int32)), .val (.int (1 : Int32)), .unset, .unset, .unset] [(.ref b2)])) t
    refine XS.astoreN X2.here hx rfl (hb hby own_d4_3) rfl rfl (l' := #[.val (.ref b), .val (.int (0 : Int32)), .val (.int (1 : Int32)), .val (.ref b2), .unset, .unset]) rfl ?_
    refine XS.aloadN X2.here hx rfl (hb hby own_d4_4) rfl rfl ?_
    refine XS.iloadN X2.here hx rfl (hb hby own_d4_5) rfl ?_
    refine XS.aloadN X2.here hx rfl (hb hby own_d4_6) rfl rfl ?_
    refine XS.iconst X2.here hx rfl (hb hby own_d4_7) ?_
    refine XS.iloadN X2.here hx rfl (hb hby own_d4_8) rfl ?_
    exact kt
  obtain ⟨_, _, ⟨T10, L10, k10, n10⟩, -, X10, ⟨Lc10, hQ10, l10, y10, z10⟩, st10⟩ := Jvm.LawKit.callS X2 hx (y := (⟨"java/lang/StringUTF16", "compress", "([CI[BII)I"⟩ : MethodName)) hown (mvT hZ (hw _ (List.mem_of_getElem? (i := 20) rfl))) (mvT hZ (hw _ (List.mem_of_getElem? (i := 21) rfl))) (mvT hZ (hw _ (List.mem_of_getElem? (i := 17) rfl))) (mvT hZ (hw _ (List.mem_of_getElem? (i := 22) rfl))) (by decide) (backOf (W := 0) (own_rm5k1 l Z a0 hw [] (b) (b2) (c0) (kb) (k2) h2 n0 (Nat.le_trans Z0 K5.1) F4 V6 g_b2 ne_b_b2 hl0) hZ (hw _ (List.mem_of_getElem? (i := 22) rfl)) (hw _ (List.mem_of_getElem? (i := 17) rfl)) (by decide) (by decide)) (g := (mkF m 9 #[.val (.ref b), .val (.int (0 : Int32)), .val (.int (1 : Int32)), .val (.ref b2), .unset, .unset] [(.int (1 : Int32)), (.int (0 : Int32)), (.ref b2), (.int (0 : Int32)), (.ref b)])) rfl (by rw [hml]; rfl) (argsL := [(.ref b), (.int (0 : Int32)), (.ref b2), (.int (0 : Int32)), (.int (1 : Int32))]) (rest := []) (lenOf own_pd1 rfl) rfl (by show 2 * 0 + _ ≤ _; exact Nat.le_of_eq rfl) (hb hby own_d4_9) (fun _ _ => ⟨rfl, e2, (by decide : 1 + 0 ≤ _), (by decide : 1 + 0 ≤ _)⟩)
  dsimp only [Pt.U, Pt.locs, Pt.cells, Pt.slots] at X10 l10 y10 z10 st10 hQ10
  subst l10 y10 z10
  obtain ⟨rfl, Nq10, Kc7, Vc7⟩ := hQ10
  have N11 := Fr.app N0 Nq10
  have S12 : ∀ t, Steps p.tables e below (T10.setTop (mkF m 12 #[.val (.ref b), .val (.int (0 : Int32)), .val (.int (1 : Int32)), .val (.ref b2), .unset, .unset] [(.int (1 : Int32))])) t → Steps p.tables e below (s₁.setTop (entryFrame m #[(.ref b), (.int (0 : Int32)), (.int (1 : Int32))] 6)) t := fun t kt => S9 t (st10 _ kt)
  have F13 := F4.keep Kc7 (ninS ne_b_b2 nin0)
  have K14 : Keep h0 T10.heap [] := K5.trans Kc7 (allS (Or.inr sz_b2) all0)
  have S15 : ∀ t, Steps p.tables e below (T10.setTop (mkF m 17 #[.val (.ref b), .val (.int (0 : Int32)), .val (.int (1 : Int32)), .val (.ref b2), .val (.int (1 : Int32)), .unset] [(.int (1 : Int32)), (.int (1 : Int32))])) t → Steps p.tables e below (s₁.setTop (entryFrame m #[(.ref b), (.int (0 : Int32)), (.int (1 : Int32))] 6)) t := fun t kt => by
    refine S12 t ?_
    show Steps p.tables e below (T10.setTop (mkF m 12 #[.val (.ref b), .val (.int (0 : Int32)), .val (.int (1 : Int32)), .val (.ref b2), .unset, .unset] [(.int (1 : Int32))])) t
    refine XS.istore X10.here hx rfl (hb hby own_d4_12) rfl (l' := #[.val (.ref b), .val (.int (0 : Int32)), .val (.int (1 : Int32)), .val (.ref b2), .val (.int (1 : Int32)), .unset]) rfl ?_
    refine XS.iload X10.here hx rfl (hb hby own_d4_14) rfl ?_
    refine XS.iloadN X10.here hx rfl (hb hby own_d4_16) rfl ?_
    exact kt
  have hc17_16 : (1 : Int32) = (1 : Int32) := by decide
  have S17 : ∀ t, Steps p.tables e below (T10.setTop (mkF m 58 #[.val (.ref b), .val (.int (0 : Int32)), .val (.int (1 : Int32)), .val (.ref b2), .val (.int (1 : Int32)), .unset] [(.ref b2)])) t → Steps p.tables e below (s₁.setTop (entryFrame m #[(.ref b), (.int (0 : Int32)), (.int (1 : Int32))] 6)) t := fun t kt => by
    refine S15 t ?_
    show Steps p.tables e below (T10.setTop (mkF m 17 #[.val (.ref b), .val (.int (0 : Int32)), .val (.int (1 : Int32)), .val (.ref b2), .val (.int (1 : Int32)), .unset] [(.int (1 : Int32)), (.int (1 : Int32))])) t
    refine XS.icmpYes X10.here hx rfl (pc0 := 17) (pc' := 57) rfl (hb hby own_d4_17) rfl (teq hc17_16).1 (by decide) (by decide) ?_
    refine XS.aloadN X10.here hx rfl (hb hby own_d4_57) rfl rfl ?_
    exact kt
  obtain ⟨fs, hr, hrun, hended, hW, hsame⟩ := X10.leave (v := some (.ref b2)) (fun h => by rw [Bd.returns] at h; cases h)
  refine ⟨_, _, S17 _ ?_, hrun, hended, _, _, rfl, ?_, ⟨_, rfl⟩, hW, hsame.mono (by decide) (by decide)⟩
  · show Steps p.tables e below (T10.setTop (mkF m 58 #[.val (.ref b), .val (.int (0 : Int32)), .val (.int (1 : Int32)), .val (.ref b2), .val (.int (1 : Int32)), .unset] [(.ref b2)])) _
    jvm_step X10.here [X10.here.top, hx, (hb hby own_d4_58), X10.method', Bd.returns, Value.isRef, FieldType.isReference]
    first | (intro acts; rw [hr _ acts rfl rfl rfl]) | rw [hr _ _ rfl rfl rfl]
    exact Steps.refl _
  · show own_Q4k1 Z b c0 kb h0 n0 _ T10.heap _
    exact ⟨b2, k2, rfl, N11, g_b2, sz_b2, K14, Vc7⟩
theorem own_pd2 : parseMethodDescriptor "([CII)[B" = some ⟨[(.array .char), .int, .int], some (.array .byte)⟩ := by decide +kernel
theorem own_pd3 : parseMethodDescriptor "([BI)B" = some ⟨[(.array .byte), .int], some .byte⟩ := by decide +kernel
theorem own_d2_0 : decode jdk_42_method_149_code 0 = .ok (.aload_n 0, 1) := by decide +kernel
theorem own_d2_1 : decode jdk_42_method_149_code 1 = .ok (.invokespecial 1, 3) := by decide +kernel
theorem own_d2_4 : decode jdk_42_method_149_code 4 = .ok (.iload_n 3, 1) := by decide +kernel
theorem own_d2_5 : decode jdk_42_method_149_code 5 = .ok (.ifCond .ne 22, 3) := by decide +kernel
theorem own_d2_27 : decode jdk_42_method_149_code 27 = .ok (.getstatic 38, 3) := by decide +kernel
theorem own_d2_30 : decode jdk_42_method_149_code 30 = .ok (.ifCond .eq 28, 3) := by decide +kernel
theorem own_d2_33 : decode jdk_42_method_149_code 33 = .ok (.aload_n 1, 1) := by decide +kernel
theorem own_d2_34 : decode jdk_42_method_149_code 34 = .ok (.iload_n 2, 1) := by decide +kernel
theorem own_d2_35 : decode jdk_42_method_149_code 35 = .ok (.iload_n 3, 1) := by decide +kernel
theorem own_d2_36 : decode jdk_42_method_149_code 36 = .ok (.invokestatic 177, 3) := by decide +kernel
theorem own_d2_39 : decode jdk_42_method_149_code 39 = .ok (.astore 5, 2) := by decide +kernel
theorem own_d2_41 : decode jdk_42_method_149_code 41 = .ok (.aload_n 0, 1) := by decide +kernel
theorem own_d2_42 : decode jdk_42_method_149_code 42 = .ok (.aload 5, 2) := by decide +kernel
theorem own_d2_44 : decode jdk_42_method_149_code 44 = .ok (.iload_n 3, 1) := by decide +kernel
theorem own_d2_45 : decode jdk_42_method_149_code 45 = .ok (.invokestatic 47, 3) := by decide +kernel
theorem own_d2_48 : decode jdk_42_method_149_code 48 = .ok (.putfield 15, 3) := by decide +kernel
theorem own_d2_51 : decode jdk_42_method_149_code 51 = .ok (.aload_n 0, 1) := by decide +kernel
theorem own_d2_52 : decode jdk_42_method_149_code 52 = .ok (.aload 5, 2) := by decide +kernel
theorem own_d2_54 : decode jdk_42_method_149_code 54 = .ok (.putfield 9, 3) := by decide +kernel
theorem own_d2_57 : decode jdk_42_method_149_code 57 = .ok (.return_, 1) := by decide +kernel
theorem own_ef2k1 (m : MethodId) (x0 : Addr) (x1 : Addr) (x2 : Int32) (x3 : Int32) : entryFrame m #[(.ref x0), (.ref x1), (.int x2), (.int x3), .null] 6 = mkF m 0 #[.val (.ref x0), .val (.ref x1), .val (.int x2), .val (.int x3), .val .null, .unset] [] := by first | (simp [entryFrame, mkF, argsToLocals, Value.category]; done) | rfl
def own_Q2k1 (Z : State) (a : Addr) (b : Addr) (c0 : Int32) (kb : ClassId) (cs : Int32) (uv : Value) (uc : Value) (h0 : Heap) (n0 : Nat) (v : Option Value) (h : Heap) (L : List Loc) : Prop := v = none ∧ Fr n0 L ∧ Keep h0 h [a] ∧ Exa Z h a "java/lang/String" ∧ Fld Z h a "java/lang/String" "coder" "B" (.int (0 : Int32)) ∧ ∃ (tb : Addr) (kt : ClassId), n0 ≤ tb ∧ h0.size ≤ tb ∧ a ≠ tb ∧ Fld Z h a "java/lang/String" "value" "[B" (.ref tb) ∧ Arv Z h tb kt .byte (1 : Int32) [(.int (own_lo c0))] (.int (0 : Int32))
theorem own_pn3 : plainName "java/lang/String" = true := by first | (simp [plainName, overriddenIn]; done) | decide +kernel
set_option maxHeartbeats 40000000 in
theorem own_rm2k1 (l : Launch) (Z : State) (a0 : Array Value) (hw : ∀ d ∈ tables_1, d.before a0 Z = true) (ws : List Jvm.Cond) (a : Addr) (b : Addr) (c0 : Int32) (kb : ClassId) (cs : Int32) (uv : Value) (uc : Value) (h0 : Heap) (n0 : Nat) (Z0 : n0 ≤ h0.size) (E_a : Exa Z h0 a "java/lang/String") (g_a : n0 ≤ a) (F_value : Fld Z h0 a "java/lang/String" "value" "[B" uv) (F_coder : Fld Z h0 a "java/lang/String" "coder" "B" uc) (S_CS : Sta Z h0 "java/lang/String" "COMPACT_STRINGS" "Z" (.int cs)) (hcs : ¬ cs = (0 : Int32)) (V_b : Arv Z h0 b kb .char (1 : Int32) [(.int c0)] (.int (0 : Int32))) (hl0 : ¬ (255 : Int32) < c0) :
    MetFree l (⟨"java/lang/String", "<init>", "([CIILjava/lang/Void;)V"⟩ : MethodName) (head1 (Jvm.Cond.code (⟨"java/lang/String", "<init>", "([CIILjava/lang/Void;)V"⟩ : MethodName) jdk_42_method_149_code 6 none :: ws) ({ frames := 2, cells := 1, slots := 1, locals := 35 } : Room)) (fun argv U => argv = #[(.ref a), (.ref b), (.int (0 : Int32)), (.int (1 : Int32)), .null] ∧ Z.Warmed39 U.vm ∧ U.heap = h0) (fun _ _ _ _ _ => True) (fun _ U o U' => ∃ v L, o = .returned v ∧ own_Q2k1 Z a b c0 kb cs uv uc h0 n0 v U'.heap L ∧ FrameEnd U o U' L ({ frames := 2, cells := 1, slots := 1, locals := 35 } : Room).cells ({ frames := 2, cells := 1, slots := 1, locals := 35 } : Room).slots) := by
  refine MetFree.of_bodySF (plainFor_of_name own_pn3) hisR ?_
  intro p e s m args below meth c s₁ Bd hml0 hP hK
  obtain ⟨rfl, hZ, hh⟩ := hP
  have hx := Bd.exec
  have hby := Bd.bytes
  have hml : c.maxLocals = 6 := hml0
  have hown : s.vm.findClass "java/lang/String" = some m.cls := findClass_of_methodNamed Bd.named
  have hnm := (name_of_methodNamed Bd.named Bd.method).1
  have X0 : Stand p l e ({ frames := 2, cells := 1, slots := 1, locals := 35 } : Room) s m #[(.ref a), (.ref b), (.int (0 : Int32)), (.int (1 : Int32)), .null] below meth c s₁ [] 0 0 := Stand.of_body Bd
  have e0 : s₁.heap = h0 := by rw [← hh, Bd.state]; rfl
  have N0 := Fr.nil n0
  have pre0 : ∀ t, Steps p.tables e below (s₁.setTop (mkF m 0 #[.val (.ref a), .val (.ref b), .val (.int (0 : Int32)), .val (.int (1 : Int32)), .val .null, .unset] [])) t → Steps p.tables e below (s₁.setTop (entryFrame m #[(.ref a), (.ref b), (.int (0 : Int32)), (.int (1 : Int32)), .null] 6)) t := fun t k => castTop (own_ef2k1 m a b (0 : Int32) (1 : Int32)) k
  have S1 : ∀ t, Steps p.tables e below (s₁.setTop (mkF m 1 #[.val (.ref a), .val (.ref b), .val (.int (0 : Int32)), .val (.int (1 : Int32)), .val .null, .unset] [(.ref a)])) t → Steps p.tables e below (s₁.setTop (entryFrame m #[(.ref a), (.ref b), (.int (0 : Int32)), (.int (1 : Int32)), .null] 6)) t := fun t kt => by
    refine pre0 t ?_
    show Steps p.tables e below (s₁.setTop (mkF m 0 #[.val (.ref a), .val (.ref b), .val (.int (0 : Int32)), .val (.int (1 : Int32)), .val .null, .unset] [])) t
    refine XS.aloadN X0.here hx rfl (hb hby own_d2_0) rfl rfl ?_
    exact kt
  obtain ⟨T2, X2, e2, st2⟩ := initO X0 hx hZ hown (hw _ (List.mem_of_getElem? (i := 11) rfl)) (hw _ (List.mem_of_getElem? (i := 12) rfl)) (hw _ (List.mem_of_getElem? (i := 13) rfl)) e0 (g := (mkF m 1 #[.val (.ref a), .val (.ref b), .val (.int (0 : Int32)), .val (.int (1 : Int32)), .val .null, .unset] [(.ref a)])) rfl (by rw [hml]; rfl) rfl (hb hby own_d2_1) (by decide) (W := 0) (by show 2 * 0 + _ ≤ _; exact Nat.le_of_eq rfl) (by decide)
  have S3 : ∀ t, Steps p.tables e below (T2.setTop (mkF m 4 #[.val (.ref a), .val (.ref b), .val (.int (0 : Int32)), .val (.int (1 : Int32)), .val .null, .unset] [])) t → Steps p.tables e below (s₁.setTop (entryFrame m #[(.ref a), (.ref b), (.int (0 : Int32)), (.int (1 : Int32)), .null] 6)) t := fun t kt => S1 t (st2 _ kt)
  have S4 : ∀ t, Steps p.tables e below (T2.setTop (mkF m 5 #[.val (.ref a), .val (.ref b), .val (.int (0 : Int32)), .val (.int (1 : Int32)), .val .null, .unset] [(.int (1 : Int32))])) t → Steps p.tables e below (s₁.setTop (entryFrame m #[(.ref a), (.ref b), (.int (0 : Int32)), (.int (1 : Int32)), .null] 6)) t := fun t kt => by
    refine S3 t ?_
    show Steps p.tables e below (T2.setTop (mkF m 4 #[.val (.ref a), .val (.ref b), .val (.int (0 : Int32)), .val (.int (1 : Int32)), .val .null, .unset] [])) t
    refine XS.iloadN X2.here hx rfl (hb hby own_d2_4) rfl ?_
    exact kt
  have hc5_5 : ¬ ((1 : Int32) = (0 : Int32)) := by decide
  have S6 : ∀ t, Steps p.tables e below (T2.setTop (mkF m 27 #[.val (.ref a), .val (.ref b), .val (.int (0 : Int32)), .val (.int (1 : Int32)), .val .null, .unset] [])) t → Steps p.tables e below (s₁.setTop (entryFrame m #[(.ref a), (.ref b), (.int (0 : Int32)), (.int (1 : Int32)), .null] 6)) t := fun t kt => by
    refine S4 t ?_
    show Steps p.tables e below (T2.setTop (mkF m 5 #[.val (.ref a), .val (.ref b), .val (.int (0 : Int32)), .val (.int (1 : Int32)), .val .null, .unset] [(.int (1 : Int32))])) t
    refine XS.ifYes X2.here hx rfl (pc0 := 5) (pc' := 27) rfl (hb hby own_d2_5) rfl ((if0 _ _).trans (feq hc5_5).2) (by decide) (by decide) ?_
    exact kt
  obtain ⟨T7, X7, e7, st7⟩ := getS2 X2 hx hZ hown (host := "") (Or.inl (hw _ (List.mem_of_getElem? (i := 14) rfl))) Via.refl e2 S_CS (g := (mkF m 27 #[.val (.ref a), .val (.ref b), .val (.int (0 : Int32)), .val (.int (1 : Int32)), .val .null, .unset] [])) rfl (hb hby own_d2_27)
  have S8 : ∀ t, Steps p.tables e below (T7.setTop (mkF m 30 #[.val (.ref a), .val (.ref b), .val (.int (0 : Int32)), .val (.int (1 : Int32)), .val .null, .unset] [(.int cs)])) t → Steps p.tables e below (s₁.setTop (entryFrame m #[(.ref a), (.ref b), (.int (0 : Int32)), (.int (1 : Int32)), .null] 6)) t := fun t kt => S6 t (st7 _ kt)
  have hc30_9 : ¬ (cs = (0 : Int32)) := hcs
  have S12 : ∀ t, Steps p.tables e below (T7.setTop (mkF m 36 #[.val (.ref a), .val (.ref b), .val (.int (0 : Int32)), .val (.int (1 : Int32)), .val .null, .unset] [(.int (1 : Int32)), (.int (0 : Int32)), (.ref b)])) t → Steps p.tables e below (s₁.setTop (entryFrame m #[(.ref a), (.ref b), (.int (0 : Int32)), (.int (1 : Int32)), .null] 6)) t := fun t kt => by
    refine S8 t ?_
    show Steps p.tables e below (T7.setTop (mkF m 30 #[.val (.ref a), .val (.ref b), .val (.int (0 : Int32)), .val (.int (1 : Int32)), .val .null, .unset] [(.int cs)])) t
    refine XS.ifNo X7.here hx rfl (hb hby own_d2_30) rfl ((if0 _ _).trans (feq hc30_9).1) ?_
    refine XS.aloadN X7.here hx rfl (hb hby own_d2_33) rfl rfl ?_
    refine XS.iloadN X7.here hx rfl (hb hby own_d2_34) rfl ?_
    refine XS.iloadN X7.here hx rfl (hb hby own_d2_35) rfl ?_
    exact kt
  obtain ⟨_, _, ⟨T13, L13, k13, n13⟩, -, X13, ⟨Lc13, hQ13, l13, y13, z13⟩, st13⟩ := Jvm.LawKit.callS X7 hx (y := (⟨"java/lang/StringUTF16", "compress", "([CII)[B"⟩ : MethodName)) hown (mvT hZ (hw _ (List.mem_of_getElem? (i := 15) rfl))) (mvT hZ (hw _ (List.mem_of_getElem? (i := 16) rfl))) (mvT hZ (hw _ (List.mem_of_getElem? (i := 17) rfl))) (mvT hZ (hw _ (List.mem_of_getElem? (i := 18) rfl))) (by decide) (backOf (W := 0) (own_rm4k1 l Z a0 hw [] (b) (c0) (kb) h0 n0 Z0 V_b hl0) hZ (hw _ (List.mem_of_getElem? (i := 18) rfl)) (hw _ (List.mem_of_getElem? (i := 17) rfl)) (by decide) (by decide)) (g := (mkF m 36 #[.val (.ref a), .val (.ref b), .val (.int (0 : Int32)), .val (.int (1 : Int32)), .val .null, .unset] [(.int (1 : Int32)), (.int (0 : Int32)), (.ref b)])) rfl (by rw [hml]; rfl) (argsL := [(.ref b), (.int (0 : Int32)), (.int (1 : Int32))]) (rest := []) (lenOf own_pd2 rfl) rfl (by show 2 * 0 + _ ≤ _; exact Nat.le_of_eq rfl) (hb hby own_d2_36) (fun _ _ => ⟨rfl, e7, (by decide : 0 + 1 ≤ _), (by decide : 0 + 1 ≤ _)⟩)
  dsimp only [Pt.U, Pt.locs, Pt.cells, Pt.slots] at X13 l13 y13 z13 st13 hQ13
  subst l13 y13 z13
  obtain ⟨tb10, kt10, rfl, Nq13, gt10, sz10, Kc10, Vc10⟩ := hQ13
  have N14 := Fr.app N0 Nq13
  have S15 : ∀ t, Steps p.tables e below (T13.setTop (mkF m 39 #[.val (.ref a), .val (.ref b), .val (.int (0 : Int32)), .val (.int (1 : Int32)), .val .null, .unset] [(.ref tb10)])) t → Steps p.tables e below (s₁.setTop (entryFrame m #[(.ref a), (.ref b), (.int (0 : Int32)), (.int (1 : Int32)), .null] 6)) t := fun t kt => S12 t (st13 _ kt)
  have F16 := E_a.keep Kc10
  have F17 := F_value.keep Kc10 nin0
  have F18 := F_coder.keep Kc10 nin0
  have F19 := own_StaK S_CS Kc10 all0
  have F20 := V_b.keep Kc10 nin0
  have K21 : Keep h0 T13.heap [a] := (Keep.refl h0 [a]).trans Kc10 all0
  have ne_a_tb10 : a ≠ tb10 := Nat.ne_of_lt (Nat.lt_of_lt_of_le E_a.lt sz10)
  have ne_b_tb10 : b ≠ tb10 := Nat.ne_of_lt (Nat.lt_of_lt_of_le V_b.lt sz10)
  have S23 : ∀ t, Steps p.tables e below (T13.setTop (mkF m 45 #[.val (.ref a), .val (.ref b), .val (.int (0 : Int32)), .val (.int (1 : Int32)), .val .null, .val (.ref tb10)] [(.int (1 : Int32)), (.ref tb10), (.ref a)])) t → Steps p.tables e below (s₁.setTop (entryFrame m #[(.ref a), (.ref b), (.int (0 : Int32)), (.int (1 : Int32)), .null] 6)) t := fun t kt => by
    refine S15 t ?_
    show Steps p.tables e below (T13.setTop (mkF m 39 #[.val (.ref a), .val (.ref b), .val (.int (0 : Int32)), .val (.int (1 : Int32)), .val .null, .unset] [(.ref tb10)])) t
    refine XS.astore X13.here hx rfl (hb hby own_d2_39) rfl rfl (l' := #[.val (.ref a), .val (.ref b), .val (.int (0 : Int32)), .val (.int (1 : Int32)), .val .null, .val (.ref tb10)]) rfl ?_
    refine XS.aloadN X13.here hx rfl (hb hby own_d2_41) rfl rfl ?_
    refine XS.aload X13.here hx rfl (hb hby own_d2_42) rfl rfl ?_
    refine XS.iloadN X13.here hx rfl (hb hby own_d2_44) rfl ?_
    exact kt
  obtain ⟨_, _, ⟨T24, L24, k24, n24⟩, -, X24, ⟨Lc24, hQ24, l24, y24, z24⟩, st24⟩ := Jvm.LawKit.callS X13 hx (y := (⟨"java/lang/StringUTF16", "coderFromArrayLen", "([BI)B"⟩ : MethodName)) hown (mvT hZ (hw _ (List.mem_of_getElem? (i := 23) rfl))) (mvT hZ (hw _ (List.mem_of_getElem? (i := 24) rfl))) (mvT hZ (hw _ (List.mem_of_getElem? (i := 17) rfl))) (mvT hZ (hw _ (List.mem_of_getElem? (i := 25) rfl))) (by decide) (backOf (W := 1) (own_rm6k1 l Z a0 hw [] (tb10) (c0) (kt10) T13.heap n0 (Nat.le_trans Z0 K21.1) Vc10) hZ (hw _ (List.mem_of_getElem? (i := 25) rfl)) (hw _ (List.mem_of_getElem? (i := 17) rfl)) (by decide) (by decide)) (g := (mkF m 45 #[.val (.ref a), .val (.ref b), .val (.int (0 : Int32)), .val (.int (1 : Int32)), .val .null, .val (.ref tb10)] [(.int (1 : Int32)), (.ref tb10), (.ref a)])) rfl (by rw [hml]; rfl) (argsL := [(.ref tb10), (.int (1 : Int32))]) (rest := [(.ref a)]) (lenOf own_pd3 rfl) rfl (by show 2 * 0 + _ ≤ _; exact Nat.le_of_eq rfl) (hb hby own_d2_45) (fun _ _ => ⟨rfl, rfl, (by decide : 1 + 0 ≤ _), (by decide : 1 + 0 ≤ _)⟩)
  dsimp only [Pt.U, Pt.locs, Pt.cells, Pt.slots] at X24 l24 y24 z24 st24 hQ24
  subst l24 y24 z24
  obtain ⟨rfl, rfl, eq22⟩ := hQ24
  try rw [List.append_nil] at X24
  have S25 : ∀ t, Steps p.tables e below (T24.setTop (mkF m 48 #[.val (.ref a), .val (.ref b), .val (.int (0 : Int32)), .val (.int (1 : Int32)), .val .null, .val (.ref tb10)] [(.int (0 : Int32)), (.ref a)])) t → Steps p.tables e below (s₁.setTop (entryFrame m #[(.ref a), (.ref b), (.int (0 : Int32)), (.int (1 : Int32)), .null] 6)) t := fun t kt => S23 t (st24 _ kt)
  obtain ⟨T26, h26, X26, e26, W26, st26⟩ := putFN X24 hx hZ hown (hw _ (List.mem_of_getElem? (i := 26) rfl)) Via.refl (eq22.trans rfl) F18 F16 (Or.inr ⟨(hw _ (List.mem_of_getElem? (i := 27) rfl)), rfl, hnm⟩) (hw _ (List.mem_of_getElem? (i := 1) rfl)) (ty := .byte) (v' := (.int (0 : Int32))) (by decide) rfl (by decide) (g := (mkF m 48 #[.val (.ref a), .val (.ref b), .val (.int (0 : Int32)), .val (.int (1 : Int32)), .val .null, .val (.ref tb10)] [(.int (0 : Int32)), (.ref a)])) rfl rfl (hb hby own_d2_48)
  have S27 : ∀ t, Steps p.tables e below (T26.setTop (mkF m 51 #[.val (.ref a), .val (.ref b), .val (.int (0 : Int32)), .val (.int (1 : Int32)), .val .null, .val (.ref tb10)] [])) t → Steps p.tables e below (s₁.setTop (entryFrame m #[(.ref a), (.ref b), (.int (0 : Int32)), (.int (1 : Int32)), .null] 6)) t := fun t kt => S25 t (st26 _ kt)
  have F28 := F16.wr W26
  have F29 := F17.other W26 (Or.inr (slot_ne (Or.inr (hw _ (List.mem_of_getElem? (i := 29) rfl))) (Or.inr (hw _ (List.mem_of_getElem? (i := 27) rfl))) (by decide) (t := (.array .byte)) (t' := .byte) (by decide) (by decide)))
  have F30 := F18.same W26
  have F31 := F19.wr W26
  have F32 := F20.other W26 (Ne.symm (Exa.neArv F16 F20 (hw _ (List.mem_of_getElem? (i := 1) rfl))))
  have F33 := Vc10.other W26 (Ne.symm ne_a_tb10)
  have N34 := Fr.snoc X26 N14 g_a
  have K35 : Keep h0 h26 [a] := K21.wr W26 (Or.inl (List.mem_of_getElem? (i := 0) rfl))
  have S36 : ∀ t, Steps p.tables e below (T26.setTop (mkF m 54 #[.val (.ref a), .val (.ref b), .val (.int (0 : Int32)), .val (.int (1 : Int32)), .val .null, .val (.ref tb10)] [(.ref tb10), (.ref a)])) t → Steps p.tables e below (s₁.setTop (entryFrame m #[(.ref a), (.ref b), (.int (0 : Int32)), (.int (1 : Int32)), .null] 6)) t := fun t kt => by
    refine S27 t ?_
    show Steps p.tables e below (T26.setTop (mkF m 51 #[.val (.ref a), .val (.ref b), .val (.int (0 : Int32)), .val (.int (1 : Int32)), .val .null, .val (.ref tb10)] [])) t
    refine XS.aloadN X26.here hx rfl (hb hby own_d2_51) rfl rfl ?_
    refine XS.aload X26.here hx rfl (hb hby own_d2_52) rfl rfl ?_
    exact kt
  obtain ⟨T37, h37, X37, e37, W37, st37⟩ := putF X26 hx hZ hown (host := "") (Or.inl (hw _ (List.mem_of_getElem? (i := 28) rfl))) Via.refl e26 F29 F28 (Or.inr ⟨(hw _ (List.mem_of_getElem? (i := 29) rfl)), rfl, hnm⟩) (hw _ (List.mem_of_getElem? (i := 1) rfl)) (ty := (.array .byte)) (by decide) rfl rfl (g := (mkF m 54 #[.val (.ref a), .val (.ref b), .val (.int (0 : Int32)), .val (.int (1 : Int32)), .val .null, .val (.ref tb10)] [(.ref tb10), (.ref a)])) rfl rfl (hb hby own_d2_54)
  have S38 : ∀ t, Steps p.tables e below (T37.setTop (mkF m 57 #[.val (.ref a), .val (.ref b), .val (.int (0 : Int32)), .val (.int (1 : Int32)), .val .null, .val (.ref tb10)] [])) t → Steps p.tables e below (s₁.setTop (entryFrame m #[(.ref a), (.ref b), (.int (0 : Int32)), (.int (1 : Int32)), .null] 6)) t := fun t kt => S36 t (st37 _ kt)
  have F39 := F28.wr W37
  have F40 := F29.same W37
  have F41 := F30.other W37 (Or.inr (slot_ne (Or.inr (hw _ (List.mem_of_getElem? (i := 27) rfl))) (Or.inr (hw _ (List.mem_of_getElem? (i := 29) rfl))) (by decide) (t := .byte) (t' := (.array .byte)) (by decide) (by decide)))
  have F42 := F31.wr W37
  have F43 := F32.other W37 (Ne.symm (Exa.neArv F28 F32 (hw _ (List.mem_of_getElem? (i := 1) rfl))))
  have F44 := F33.other W37 (Ne.symm ne_a_tb10)
  have N45 := Fr.snoc X37 N34 g_a
  have K46 : Keep h0 h37 [a] := K35.wr W37 (Or.inl (List.mem_of_getElem? (i := 0) rfl))
  obtain ⟨fs, hr, hrun, hended, hW, hsame⟩ := X37.leave (v := none) (fun _ => rfl)
  refine ⟨_, _, S38 _ ?_, hrun, hended, _, _, rfl, ?_, ⟨_, rfl⟩, hW, hsame.mono (by decide) (by decide)⟩
  · show Steps p.tables e below (T37.setTop (mkF m 57 #[.val (.ref a), .val (.ref b), .val (.int (0 : Int32)), .val (.int (1 : Int32)), .val .null, .val (.ref tb10)] [])) _
    exact X37.returnOut hx Bd.returns (hb hby own_d2_57) hr
  · show own_Q2k1 Z a b c0 kb cs uv uc h0 n0 _ T37.heap _
    rw [e37]
    exact ⟨rfl, N45, K46, F39, F41, tb10, kt10, gt10, (Nat.le_trans (Keep.refl h0 [a]).1 sz10), ne_a_tb10, F40, F44⟩
theorem own_pd4 : parseMethodDescriptor "([CIILjava/lang/Void;)V" = some ⟨[(.array .char), .int, .int, (.object "java/lang/Void")], none⟩ := by decide +kernel
theorem own_d1_0 : decode jdk_42_method_3_code 0 = .ok (.aload_n 0, 1) := by decide +kernel
theorem own_d1_1 : decode jdk_42_method_3_code 1 = .ok (.aload_n 1, 1) := by decide +kernel
theorem own_d1_2 : decode jdk_42_method_3_code 2 = .ok (.iconst 0, 1) := by decide +kernel
theorem own_d1_3 : decode jdk_42_method_3_code 3 = .ok (.aload_n 1, 1) := by decide +kernel
theorem own_d1_4 : decode jdk_42_method_3_code 4 = .ok (.arraylength, 1) := by decide +kernel
theorem own_d1_5 : decode jdk_42_method_3_code 5 = .ok (.aconst_null, 1) := by decide +kernel
theorem own_d1_6 : decode jdk_42_method_3_code 6 = .ok (.invokespecial 27, 3) := by decide +kernel
theorem own_d1_9 : decode jdk_42_method_3_code 9 = .ok (.return_, 1) := by decide +kernel
theorem own_ef1k1 (m : MethodId) (x0 : Addr) (x1 : Addr) : entryFrame m #[(.ref x0), (.ref x1)] 2 = mkF m 0 #[.val (.ref x0), .val (.ref x1)] [] := by first | (simp [entryFrame, mkF, argsToLocals, Value.category]; done) | rfl
def own_Q1k1 (Z : State) (a : Addr) (b : Addr) (c0 : Int32) (kb : ClassId) (cs : Int32) (uv : Value) (uc : Value) (h0 : Heap) (n0 : Nat) (v : Option Value) (h : Heap) (L : List Loc) : Prop := v = none ∧ Fr n0 L ∧ Keep h0 h [a] ∧ Exa Z h a "java/lang/String" ∧ Fld Z h a "java/lang/String" "coder" "B" (.int (0 : Int32)) ∧ ∃ (tb : Addr) (kt : ClassId), n0 ≤ tb ∧ h0.size ≤ tb ∧ a ≠ tb ∧ Fld Z h a "java/lang/String" "value" "[B" (.ref tb) ∧ Arv Z h tb kt .byte (1 : Int32) [(.int (own_lo c0))] (.int (0 : Int32))
set_option maxHeartbeats 40000000 in
theorem own_rm1k1 (l : Launch) (Z : State) (a0 : Array Value) (hw : ∀ d ∈ tables_1, d.before a0 Z = true) (ws : List Jvm.Cond) (a : Addr) (b : Addr) (c0 : Int32) (kb : ClassId) (cs : Int32) (uv : Value) (uc : Value) (h0 : Heap) (n0 : Nat) (Z0 : n0 ≤ h0.size) (E_a : Exa Z h0 a "java/lang/String") (g_a : n0 ≤ a) (F_value : Fld Z h0 a "java/lang/String" "value" "[B" uv) (F_coder : Fld Z h0 a "java/lang/String" "coder" "B" uc) (S_CS : Sta Z h0 "java/lang/String" "COMPACT_STRINGS" "Z" (.int cs)) (hcs : ¬ cs = (0 : Int32)) (V_b : Arv Z h0 b kb .char (1 : Int32) [(.int c0)] (.int (0 : Int32))) (hl0 : ¬ (255 : Int32) < c0) :
    MetFree l (⟨"java/lang/String", "<init>", "([C)V"⟩ : MethodName) (head1 (Jvm.Cond.code (⟨"java/lang/String", "<init>", "([C)V"⟩ : MethodName) jdk_42_method_3_code 2 none :: ws) ({ frames := 3, cells := 1, slots := 1, locals := 52 } : Room)) (fun argv U => argv = #[(.ref a), (.ref b)] ∧ Z.Warmed39 U.vm ∧ U.heap = h0) (fun _ _ _ _ _ => True) (fun _ U o U' => ∃ v L, o = .returned v ∧ own_Q1k1 Z a b c0 kb cs uv uc h0 n0 v U'.heap L ∧ FrameEnd U o U' L ({ frames := 3, cells := 1, slots := 1, locals := 52 } : Room).cells ({ frames := 3, cells := 1, slots := 1, locals := 52 } : Room).slots) := by
  refine MetFree.of_bodySF (plainFor_of_name own_pn3) hisR ?_
  intro p e s m args below meth c s₁ Bd hml0 hP hK
  obtain ⟨rfl, hZ, hh⟩ := hP
  have hx := Bd.exec
  have hby := Bd.bytes
  have hml : c.maxLocals = 2 := hml0
  have hown : s.vm.findClass "java/lang/String" = some m.cls := findClass_of_methodNamed Bd.named
  have hnm := (name_of_methodNamed Bd.named Bd.method).1
  have X0 : Stand p l e ({ frames := 3, cells := 1, slots := 1, locals := 52 } : Room) s m #[(.ref a), (.ref b)] below meth c s₁ [] 0 0 := Stand.of_body Bd
  have e0 : s₁.heap = h0 := by rw [← hh, Bd.state]; rfl
  have N0 := Fr.nil n0
  have pre0 : ∀ t, Steps p.tables e below (s₁.setTop (mkF m 0 #[.val (.ref a), .val (.ref b)] [])) t → Steps p.tables e below (s₁.setTop (entryFrame m #[(.ref a), (.ref b)] 2)) t := fun t k => castTop (own_ef1k1 m a b) k
  have S1 : ∀ t, Steps p.tables e below (s₁.setTop (mkF m 4 #[.val (.ref a), .val (.ref b)] [(.ref b), (.int (0 : Int32)), (.ref b), (.ref a)])) t → Steps p.tables e below (s₁.setTop (entryFrame m #[(.ref a), (.ref b)] 2)) t := fun t kt => by
    refine pre0 t ?_
    show Steps p.tables e below (s₁.setTop (mkF m 0 #[.val (.ref a), .val (.ref b)] [])) t
    refine XS.aloadN X0.here hx rfl (hb hby own_d1_0) rfl rfl ?_
    refine XS.aloadN X0.here hx rfl (hb hby own_d1_1) rfl rfl ?_
    refine XS.iconst X0.here hx rfl (hb hby own_d1_2) ?_
    refine XS.aloadN X0.here hx rfl (hb hby own_d1_3) rfl rfl ?_
    exact kt
  obtain ⟨cl2, Ar2, -, Sz2, Nn2, -, -⟩ := id V_b
  have S5 : ∀ t, Steps p.tables e below (s₁.setTop (mkF m 6 #[.val (.ref a), .val (.ref b)] [.null, (.int (1 : Int32)), (.int (0 : Int32)), (.ref b), (.ref a)])) t → Steps p.tables e below (s₁.setTop (entryFrame m #[(.ref a), (.ref b)] 2)) t := fun t kt => by
    refine S1 t ?_
    show Steps p.tables e below (s₁.setTop (mkF m 4 #[.val (.ref a), .val (.ref b)] [(.ref b), (.int (0 : Int32)), (.ref b), (.ref a)])) t
    refine X0.arraylength hx (by rw [e0]; exact Ar2.1) (State.isArrayOf_alike hZ.alike Ar2.2.1) (g := (mkF m 4 #[.val (.ref a), .val (.ref b)] [(.ref b), (.int (0 : Int32)), (.ref b), (.ref a)])) rfl rfl (hb hby own_d1_4) _ ?_
    rw [len_of Sz2 Nn2]
    show Steps p.tables e below (s₁.setTop (mkF m 5 #[.val (.ref a), .val (.ref b)] [(.int (1 : Int32)), (.int (0 : Int32)), (.ref b), (.ref a)])) t
    refine XS.aconstNull X0.here hx rfl (hb hby own_d1_5) ?_
    exact kt
  obtain ⟨_, _, ⟨T6, L6, k6, n6⟩, -, X6, ⟨Lc6, hQ6, l6, y6, z6⟩, st6⟩ := X0.specialBack hx (y := (⟨"java/lang/String", "<init>", "([CIILjava/lang/Void;)V"⟩ : MethodName)) rfl hown (mvT hZ (hw _ (List.mem_of_getElem? (i := 7) rfl))) (mvT hZ (hw _ (List.mem_of_getElem? (i := 8) rfl))) (mvT hZ (hw _ (List.mem_of_getElem? (i := 10) rfl))) (by decide) (backOf (W := 0) (own_rm2k1 l Z a0 hw [] (a) (b) (c0) (kb) (cs) (uv) (uc) h0 n0 Z0 E_a g_a F_value F_coder S_CS hcs V_b hl0) hZ (hw _ (List.mem_of_getElem? (i := 10) rfl)) (hw _ (List.mem_of_getElem? (i := 2) rfl)) (by decide) (by decide)) (g := (mkF m 6 #[.val (.ref a), .val (.ref b)] [.null, (.int (1 : Int32)), (.int (0 : Int32)), (.ref b), (.ref a)])) rfl (by rw [hml]; rfl) (Steps.refl _) (a := a) (argsL := [(.ref b), (.int (0 : Int32)), (.int (1 : Int32)), .null]) (rest := []) (lenOf own_pd4 rfl) rfl (by show 2 * 0 + _ ≤ _; exact Nat.le_of_eq rfl) (hb hby own_d1_6) (fun _ _ => ⟨rfl, e0, (by decide : 0 + 1 ≤ _), (by decide : 0 + 1 ≤ _)⟩)
  dsimp only [Pt.U, Pt.locs, Pt.cells, Pt.slots] at X6 l6 y6 z6 st6 hQ6
  subst l6 y6 z6
  obtain ⟨rfl, Nq6, Kc3, Ec3, Cc3, tb3, kt3, gt3, sz3, nat3, Fv3, Va3⟩ := hQ6
  have N7 := Fr.app N0 Nq6
  have S8 : ∀ t, Steps p.tables e below (T6.setTop (mkF m 9 #[.val (.ref a), .val (.ref b)] [])) t → Steps p.tables e below (s₁.setTop (entryFrame m #[(.ref a), (.ref b)] 2)) t := fun t kt => S5 t (st6.trans kt)
  have F9 := E_a.keep Kc3
  have F10 := own_StaK S_CS Kc3 (allS (own_ExaS E_a) all0)
  have F11 := V_b.keep Kc3 (ninS (Ne.symm (Exa.neArv E_a V_b (hw _ (List.mem_of_getElem? (i := 1) rfl)))) nin0)
  have K12 : Keep h0 T6.heap [a] := (Keep.refl h0 [a]).trans Kc3 (allS (Or.inl (List.mem_of_getElem? (i := 0) rfl)) all0)
  have ne_b_tb3 : b ≠ tb3 := Nat.ne_of_lt (Nat.lt_of_lt_of_le V_b.lt sz3)
  obtain ⟨fs, hr, hrun, hended, hW, hsame⟩ := X6.leave (v := none) (fun _ => rfl)
  refine ⟨_, _, S8 _ ?_, hrun, hended, _, _, rfl, ?_, ⟨_, rfl⟩, hW, hsame.mono (by decide) (by decide)⟩
  · show Steps p.tables e below (T6.setTop (mkF m 9 #[.val (.ref a), .val (.ref b)] [])) _
    exact X6.returnOut hx Bd.returns (hb hby own_d1_9) hr
  · show own_Q1k1 Z a b c0 kb cs uv uc h0 n0 _ T6.heap _
    exact ⟨rfl, N7, K12, Ec3, Cc3, tb3, kt3, gt3, (Nat.le_trans (Keep.refl h0 [a]).1 sz3), nat3, Fv3, Va3⟩
theorem own_ef5k2 (m : MethodId) (x0 : Addr) (x1 : Int32) (x2 : Addr) (x3 : Int32) (x4 : Int32) : entryFrame m #[(.ref x0), (.int x1), (.ref x2), (.int x3), (.int x4)] 7 = mkF m 0 #[.val (.ref x0), .val (.int x1), .val (.ref x2), .val (.int x3), .val (.int x4), .unset, .unset] [] := by first | (simp [entryFrame, mkF, argsToLocals, Value.category]; done) | rfl
def own_Q5k2 (Z : State) (b : Addr) (tb : Addr) (c0 : Int32) (c1 : Int32) (kb : ClassId) (kt : ClassId) (h0 : Heap) (n0 : Nat) (v : Option Value) (h : Heap) (L : List Loc) : Prop := v = some (.int (2 : Int32)) ∧ Fr n0 L ∧ Keep h0 h [tb] ∧ Arv Z h tb kt .byte (2 : Int32) [(.int (own_lo c0)), (.int (own_lo c1))] (.int (0 : Int32))
set_option maxHeartbeats 40000000 in
theorem own_rm5k2 (l : Launch) (Z : State) (a0 : Array Value) (hw : ∀ d ∈ tables_1, d.before a0 Z = true) (ws : List Jvm.Cond) (b : Addr) (tb : Addr) (c0 : Int32) (c1 : Int32) (kb : ClassId) (kt : ClassId) (h0 : Heap) (n0 : Nat) (Z0 : n0 ≤ h0.size) (V_b : Arv Z h0 b kb .char (2 : Int32) [(.int c0), (.int c1)] (.int (0 : Int32))) (V_t : Arv Z h0 tb kt .byte (2 : Int32) [(.int (0 : Int32)), (.int (0 : Int32))] (.int (0 : Int32))) (g_tb : n0 ≤ tb) (ne_b_tb : b ≠ tb) (hl0 : ¬ (255 : Int32) < c0) (hl1 : ¬ (255 : Int32) < c1) :
    MetFree l (⟨"java/lang/StringUTF16", "compress", "([CI[BII)I"⟩ : MethodName) (head1 (Jvm.Cond.code (⟨"java/lang/StringUTF16", "compress", "([CI[BII)I"⟩ : MethodName) jdk_52_method_21_code 7 (some .int) :: ws) ({ frames := 0, cells := 0, slots := 0, locals := 0 } : Room)) (fun argv U => argv = #[(.ref b), (.int (0 : Int32)), (.ref tb), (.int (0 : Int32)), (.int (2 : Int32))] ∧ Z.Warmed39 U.vm ∧ U.heap = h0) (fun _ _ _ _ _ => True) (fun _ U o U' => ∃ v L, o = .returned v ∧ own_Q5k2 Z b tb c0 c1 kb kt h0 n0 v U'.heap L ∧ FrameEnd U o U' L ({ frames := 0, cells := 0, slots := 0, locals := 0 } : Room).cells ({ frames := 0, cells := 0, slots := 0, locals := 0 } : Room).slots) := by
  refine MetFree.of_bodySF (plainFor_of_name own_pn2) hisR ?_
  intro p e s m args below meth c s₁ Bd hml0 hP hK
  obtain ⟨rfl, hZ, hh⟩ := hP
  have hx := Bd.exec
  have hby := Bd.bytes
  have hml : c.maxLocals = 7 := hml0
  have hown : s.vm.findClass "java/lang/StringUTF16" = some m.cls := findClass_of_methodNamed Bd.named
  have hnm := (name_of_methodNamed Bd.named Bd.method).1
  have X0 : Stand p l e ({ frames := 0, cells := 0, slots := 0, locals := 0 } : Room) s m #[(.ref b), (.int (0 : Int32)), (.ref tb), (.int (0 : Int32)), (.int (2 : Int32))] below meth c s₁ [] 0 0 := Stand.of_body Bd
  have e0 : s₁.heap = h0 := by rw [← hh, Bd.state]; rfl
  have N0 := Fr.nil n0
  have pre0 : ∀ t, Steps p.tables e below (s₁.setTop (mkF m 0 #[.val (.ref b), .val (.int (0 : Int32)), .val (.ref tb), .val (.int (0 : Int32)), .val (.int (2 : Int32)), .unset, .unset] [])) t → Steps p.tables e below (s₁.setTop (entryFrame m #[(.ref b), (.int (0 : Int32)), (.ref tb), (.int (0 : Int32)), (.int (2 : Int32))] 7)) t := fun t k => castTop (own_ef5k2 m b (0 : Int32) tb (0 : Int32) (2 : Int32)) k
  have S1 : ∀ t, Steps p.tables e below (s₁.setTop (mkF m 7 #[.val (.ref b), .val (.int (0 : Int32)), .val (.ref tb), .val (.int (0 : Int32)), .val (.int (2 : Int32)), .val (.int (0 : Int32)), .unset] [(.int (2 : Int32)), (.int (0 : Int32))])) t → Steps p.tables e below (s₁.setTop (entryFrame m #[(.ref b), (.int (0 : Int32)), (.ref tb), (.int (0 : Int32)), (.int (2 : Int32))] 7)) t := fun t kt => by
    refine pre0 t ?_
    show Steps p.tables e below (s₁.setTop (mkF m 0 #[.val (.ref b), .val (.int (0 : Int32)), .val (.ref tb), .val (.int (0 : Int32)), .val (.int (2 : Int32)), .unset, .unset] [])) t
    refine XS.iconst X0.here hx rfl (hb hby own_d5_0) ?_
    refine XS.istore X0.here hx rfl (hb hby own_d5_1) rfl (l' := #[.val (.ref b), .val (.int (0 : Int32)), .val (.ref tb), .val (.int (0 : Int32)), .val (.int (2 : Int32)), .val (.int (0 : Int32)), .unset]) rfl ?_
    refine XS.iload X0.here hx rfl (hb hby own_d5_3) rfl ?_
    refine XS.iload X0.here hx rfl (hb hby own_d5_5) rfl ?_
    exact kt
  have hc7_2 : (0 : Int32) < (2 : Int32) := by decide
  have S4 : ∀ t, Steps p.tables e below (s₁.setTop (mkF m 12 #[.val (.ref b), .val (.int (0 : Int32)), .val (.ref tb), .val (.int (0 : Int32)), .val (.int (2 : Int32)), .val (.int (0 : Int32)), .unset] [(.int (0 : Int32)), (.ref b)])) t → Steps p.tables e below (s₁.setTop (entryFrame m #[(.ref b), (.int (0 : Int32)), (.ref tb), (.int (0 : Int32)), (.int (2 : Int32))] 7)) t := fun t kt => by
    refine S1 t ?_
    show Steps p.tables e below (s₁.setTop (mkF m 7 #[.val (.ref b), .val (.int (0 : Int32)), .val (.ref tb), .val (.int (0 : Int32)), .val (.int (2 : Int32)), .val (.int (0 : Int32)), .unset] [(.int (2 : Int32)), (.int (0 : Int32))])) t
    refine XS.icmpNo X0.here hx rfl (hb hby own_d5_7) rfl (tlt hc7_2).2.1 ?_
    refine XS.aloadN X0.here hx rfl (hb hby own_d5_10) rfl rfl ?_
    refine XS.iloadN X0.here hx rfl (hb hby own_d5_11) rfl ?_
    exact kt
  obtain ⟨cl3, Ar3, -, Sz3, Nn3, Hh3, -⟩ := id V_b
  have hin3 : ¬ ((0 : Int32) < 0 ∨ cl3.slots.size ≤ ((0 : Int32)).toNatClampNeg) := inb_of Sz3 ⟨by decide, by decide⟩
  have S5 : ∀ t, Steps p.tables e below (s₁.setTop (mkF m 20 #[.val (.ref b), .val (.int (0 : Int32)), .val (.ref tb), .val (.int (0 : Int32)), .val (.int (2 : Int32)), .val (.int (0 : Int32)), .val (.int c0)] [(.int (255 : Int32)), (.int c0)])) t → Steps p.tables e below (s₁.setTop (entryFrame m #[(.ref b), (.int (0 : Int32)), (.ref tb), (.int (0 : Int32)), (.int (2 : Int32))] 7)) t := fun t kt => by
    refine S4 t ?_
    show Steps p.tables e below (s₁.setTop (mkF m 12 #[.val (.ref b), .val (.int (0 : Int32)), .val (.ref tb), .val (.int (0 : Int32)), .val (.int (2 : Int32)), .val (.int (0 : Int32)), .unset] [(.int (0 : Int32)), (.ref b)])) t
    refine X0.caload hx (j := (0 : Int32)) (v := (.int c0)) (by rw [e0]; exact Ar3.1) (State.isArrayOf_alike hZ.alike Ar3.2.1) Ar3.2.2 hin3 (Has.at Hh3 hin3 rfl) (g := (mkF m 12 #[.val (.ref b), .val (.int (0 : Int32)), .val (.ref tb), .val (.int (0 : Int32)), .val (.int (2 : Int32)), .val (.int (0 : Int32)), .unset] [(.int (0 : Int32)), (.ref b)])) rfl rfl (hb hby own_d5_12) _ ?_
    show Steps p.tables e below (s₁.setTop (mkF m 13 #[.val (.ref b), .val (.int (0 : Int32)), .val (.ref tb), .val (.int (0 : Int32)), .val (.int (2 : Int32)), .val (.int (0 : Int32)), .unset] [(.int c0)])) t
    refine XS.istore X0.here hx rfl (hb hby own_d5_13) rfl (l' := #[.val (.ref b), .val (.int (0 : Int32)), .val (.ref tb), .val (.int (0 : Int32)), .val (.int (2 : Int32)), .val (.int (0 : Int32)), .val (.int c0)]) rfl ?_
    refine XS.iload X0.here hx rfl (hb hby own_d5_15) rfl ?_
    refine XS.sipush X0.here hx rfl (hb hby own_d5_17) ?_
    exact kt
  have hc20_6 : ¬ ((255 : Int32) < c0) := hl0
  have S7 : ∀ t, Steps p.tables e below (s₁.setTop (mkF m 31 #[.val (.ref b), .val (.int (0 : Int32)), .val (.ref tb), .val (.int (0 : Int32)), .val (.int (2 : Int32)), .val (.int (0 : Int32)), .val (.int c0)] [(.int (c0.toInt8.toInt32)), (.int (0 : Int32)), (.ref tb)])) t → Steps p.tables e below (s₁.setTop (entryFrame m #[(.ref b), (.int (0 : Int32)), (.ref tb), (.int (0 : Int32)), (.int (2 : Int32))] 7)) t := fun t kt => by
    refine S5 t ?_
    show Steps p.tables e below (s₁.setTop (mkF m 20 #[.val (.ref b), .val (.int (0 : Int32)), .val (.ref tb), .val (.int (0 : Int32)), .val (.int (2 : Int32)), .val (.int (0 : Int32)), .val (.int c0)] [(.int (255 : Int32)), (.int c0)])) t
    refine XS.icmpYes X0.here hx rfl (pc0 := 20) (pc' := 26) rfl (hb hby own_d5_20) rfl (flt hc20_6).2.2.2 (by decide) (by decide) ?_
    refine XS.aloadN X0.here hx rfl (hb hby own_d5_26) rfl rfl ?_
    refine XS.iloadN X0.here hx rfl (hb hby own_d5_27) rfl ?_
    refine XS.iload X0.here hx rfl (hb hby own_d5_28) rfl ?_
    refine XS.i2b X0.here hx rfl (hb hby own_d5_30) rfl ?_
    exact kt
  obtain ⟨cl8, Ar8, q8, Sz8, Nn8, Hh8, Gg8⟩ := id V_t
  have hin8 : ¬ ((0 : Int32) < 0 ∨ cl8.slots.size ≤ ((0 : Int32)).toNatClampNeg) := inb_of Sz8 ⟨by decide, by decide⟩
  obtain ⟨T9, h9, X9, e9, W9, st9⟩ := stB X0 hx hZ e0 Ar8 (j := (0 : Int32)) hin8 (g := (mkF m 31 #[.val (.ref b), .val (.int (0 : Int32)), .val (.ref tb), .val (.int (0 : Int32)), .val (.int (2 : Int32)), .val (.int (0 : Int32)), .val (.int c0)] [(.int (c0.toInt8.toInt32)), (.int (0 : Int32)), (.ref tb)])) rfl rfl (hb hby own_d5_31)
  have S10 : ∀ t, Steps p.tables e below (T9.setTop (mkF m 32 #[.val (.ref b), .val (.int (0 : Int32)), .val (.ref tb), .val (.int (0 : Int32)), .val (.int (2 : Int32)), .val (.int (0 : Int32)), .val (.int c0)] [])) t → Steps p.tables e below (s₁.setTop (entryFrame m #[(.ref b), (.int (0 : Int32)), (.ref tb), (.int (0 : Int32)), (.int (2 : Int32))] 7)) t := fun t kt => S7 t (st9 _ kt)
  have V11 := Arv.set Ar8 q8 Sz8 Nn8 Hh8 Gg8 (fits_nar_byte _) W9 0 rfl (Nat.le_of_ble_eq_true rfl)
  have F12 := V_b.other W9 ne_b_tb
  have N13 := Fr.snoc X9 N0 g_tb
  have K14 : Keep h0 h9 [tb] := (Keep.refl h0 [tb]).wr W9 (Or.inl (List.mem_of_getElem? (i := 0) rfl))
  have S15 : ∀ t, Steps p.tables e below (T9.setTop (mkF m 7 #[.val (.ref b), .val (.int (1 : Int32)), .val (.ref tb), .val (.int (1 : Int32)), .val (.int (2 : Int32)), .val (.int (1 : Int32)), .val (.int c0)] [(.int (2 : Int32)), (.int (1 : Int32))])) t → Steps p.tables e below (s₁.setTop (entryFrame m #[(.ref b), (.int (0 : Int32)), (.ref tb), (.int (0 : Int32)), (.int (2 : Int32))] 7)) t := fun t kt => by
    refine S10 t ?_
    show Steps p.tables e below (T9.setTop (mkF m 32 #[.val (.ref b), .val (.int (0 : Int32)), .val (.ref tb), .val (.int (0 : Int32)), .val (.int (2 : Int32)), .val (.int (0 : Int32)), .val (.int c0)] [])) t
    refine XS.iinc X9.here hx rfl (hb hby own_d5_32) rfl (l' := #[.val (.ref b), .val (.int (1 : Int32)), .val (.ref tb), .val (.int (0 : Int32)), .val (.int (2 : Int32)), .val (.int (0 : Int32)), .val (.int c0)]) rfl ?_
    refine XS.iinc X9.here hx rfl (hb hby own_d5_35) rfl (l' := #[.val (.ref b), .val (.int (1 : Int32)), .val (.ref tb), .val (.int (1 : Int32)), .val (.int (2 : Int32)), .val (.int (0 : Int32)), .val (.int c0)]) rfl ?_
    refine XS.iinc X9.here hx rfl (hb hby own_d5_38) rfl (l' := #[.val (.ref b), .val (.int (1 : Int32)), .val (.ref tb), .val (.int (1 : Int32)), .val (.int (2 : Int32)), .val (.int (1 : Int32)), .val (.int c0)]) rfl ?_
    refine XS.goto X9.here hx rfl (pc0 := 41) (pc' := 3) rfl (hb hby own_d5_41) (by decide) (by decide) ?_
    refine XS.iload X9.here hx rfl (hb hby own_d5_3) rfl ?_
    refine XS.iload X9.here hx rfl (hb hby own_d5_5) rfl ?_
    exact kt
  have hc7_16 : (1 : Int32) < (2 : Int32) := by decide
  have S18 : ∀ t, Steps p.tables e below (T9.setTop (mkF m 12 #[.val (.ref b), .val (.int (1 : Int32)), .val (.ref tb), .val (.int (1 : Int32)), .val (.int (2 : Int32)), .val (.int (1 : Int32)), .val (.int c0)] [(.int (1 : Int32)), (.ref b)])) t → Steps p.tables e below (s₁.setTop (entryFrame m #[(.ref b), (.int (0 : Int32)), (.ref tb), (.int (0 : Int32)), (.int (2 : Int32))] 7)) t := fun t kt => by
    refine S15 t ?_
    show Steps p.tables e below (T9.setTop (mkF m 7 #[.val (.ref b), .val (.int (1 : Int32)), .val (.ref tb), .val (.int (1 : Int32)), .val (.int (2 : Int32)), .val (.int (1 : Int32)), .val (.int c0)] [(.int (2 : Int32)), (.int (1 : Int32))])) t
    refine XS.icmpNo X9.here hx rfl (hb hby own_d5_7) rfl (tlt hc7_16).2.1 ?_
    refine XS.aloadN X9.here hx rfl (hb hby own_d5_10) rfl rfl ?_
    refine XS.iloadN X9.here hx rfl (hb hby own_d5_11) rfl ?_
    exact kt
  obtain ⟨cl17, Ar17, -, Sz17, Nn17, Hh17, -⟩ := id F12
  have hin17 : ¬ ((1 : Int32) < 0 ∨ cl17.slots.size ≤ ((1 : Int32)).toNatClampNeg) := inb_of Sz17 ⟨by decide, by decide⟩
  have S19 : ∀ t, Steps p.tables e below (T9.setTop (mkF m 20 #[.val (.ref b), .val (.int (1 : Int32)), .val (.ref tb), .val (.int (1 : Int32)), .val (.int (2 : Int32)), .val (.int (1 : Int32)), .val (.int c1)] [(.int (255 : Int32)), (.int c1)])) t → Steps p.tables e below (s₁.setTop (entryFrame m #[(.ref b), (.int (0 : Int32)), (.ref tb), (.int (0 : Int32)), (.int (2 : Int32))] 7)) t := fun t kt => by
    refine S18 t ?_
    show Steps p.tables e below (T9.setTop (mkF m 12 #[.val (.ref b), .val (.int (1 : Int32)), .val (.ref tb), .val (.int (1 : Int32)), .val (.int (2 : Int32)), .val (.int (1 : Int32)), .val (.int c0)] [(.int (1 : Int32)), (.ref b)])) t
    refine X9.caload hx (j := (1 : Int32)) (v := (.int c1)) (by rw [e9]; exact Ar17.1) (State.isArrayOf_alike hZ.alike Ar17.2.1) Ar17.2.2 hin17 (Has.at Hh17 hin17 rfl) (g := (mkF m 12 #[.val (.ref b), .val (.int (1 : Int32)), .val (.ref tb), .val (.int (1 : Int32)), .val (.int (2 : Int32)), .val (.int (1 : Int32)), .val (.int c0)] [(.int (1 : Int32)), (.ref b)])) rfl rfl (hb hby own_d5_12) _ ?_
    show Steps p.tables e below (T9.setTop (mkF m 13 #[.val (.ref b), .val (.int (1 : Int32)), .val (.ref tb), .val (.int (1 : Int32)), .val (.int (2 : Int32)), .val (.int (1 : Int32)), .val (.int c0)] [(.int c1)])) t
    refine XS.istore X9.here hx rfl (hb hby own_d5_13) rfl (l' := #[.val (.ref b), .val (.int (1 : Int32)), .val (.ref tb), .val (.int (1 : Int32)), .val (.int (2 : Int32)), .val (.int (1 : Int32)), .val (.int c1)]) rfl ?_
    refine XS.iload X9.here hx rfl (hb hby own_d5_15) rfl ?_
    refine XS.sipush X9.here hx rfl (hb hby own_d5_17) ?_
    exact kt
  have hc20_20 : ¬ ((255 : Int32) < c1) := hl1
  have S21 : ∀ t, Steps p.tables e below (T9.setTop (mkF m 31 #[.val (.ref b), .val (.int (1 : Int32)), .val (.ref tb), .val (.int (1 : Int32)), .val (.int (2 : Int32)), .val (.int (1 : Int32)), .val (.int c1)] [(.int (c1.toInt8.toInt32)), (.int (1 : Int32)), (.ref tb)])) t → Steps p.tables e below (s₁.setTop (entryFrame m #[(.ref b), (.int (0 : Int32)), (.ref tb), (.int (0 : Int32)), (.int (2 : Int32))] 7)) t := fun t kt => by
    refine S19 t ?_
    show Steps p.tables e below (T9.setTop (mkF m 20 #[.val (.ref b), .val (.int (1 : Int32)), .val (.ref tb), .val (.int (1 : Int32)), .val (.int (2 : Int32)), .val (.int (1 : Int32)), .val (.int c1)] [(.int (255 : Int32)), (.int c1)])) t
    refine XS.icmpYes X9.here hx rfl (pc0 := 20) (pc' := 26) rfl (hb hby own_d5_20) rfl (flt hc20_20).2.2.2 (by decide) (by decide) ?_
    refine XS.aloadN X9.here hx rfl (hb hby own_d5_26) rfl rfl ?_
    refine XS.iloadN X9.here hx rfl (hb hby own_d5_27) rfl ?_
    refine XS.iload X9.here hx rfl (hb hby own_d5_28) rfl ?_
    refine XS.i2b X9.here hx rfl (hb hby own_d5_30) rfl ?_
    exact kt
  obtain ⟨cl22, Ar22, q22, Sz22, Nn22, Hh22, Gg22⟩ := id V11
  have hin22 : ¬ ((1 : Int32) < 0 ∨ cl22.slots.size ≤ ((1 : Int32)).toNatClampNeg) := inb_of Sz22 ⟨by decide, by decide⟩
  obtain ⟨T23, h23, X23, e23, W23, st23⟩ := stB X9 hx hZ e9 Ar22 (j := (1 : Int32)) hin22 (g := (mkF m 31 #[.val (.ref b), .val (.int (1 : Int32)), .val (.ref tb), .val (.int (1 : Int32)), .val (.int (2 : Int32)), .val (.int (1 : Int32)), .val (.int c1)] [(.int (c1.toInt8.toInt32)), (.int (1 : Int32)), (.ref tb)])) rfl rfl (hb hby own_d5_31)
  have S24 : ∀ t, Steps p.tables e below (T23.setTop (mkF m 32 #[.val (.ref b), .val (.int (1 : Int32)), .val (.ref tb), .val (.int (1 : Int32)), .val (.int (2 : Int32)), .val (.int (1 : Int32)), .val (.int c1)] [])) t → Steps p.tables e below (s₁.setTop (entryFrame m #[(.ref b), (.int (0 : Int32)), (.ref tb), (.int (0 : Int32)), (.int (2 : Int32))] 7)) t := fun t kt => S21 t (st23 _ kt)
  have V25 := Arv.set Ar22 q22 Sz22 Nn22 Hh22 Gg22 (fits_nar_byte _) W23 1 rfl (Nat.le_of_ble_eq_true rfl)
  have F26 := F12.other W23 ne_b_tb
  have N27 := Fr.snoc X23 N13 g_tb
  have K28 : Keep h0 h23 [tb] := K14.wr W23 (Or.inl (List.mem_of_getElem? (i := 0) rfl))
  have S29 : ∀ t, Steps p.tables e below (T23.setTop (mkF m 7 #[.val (.ref b), .val (.int (2 : Int32)), .val (.ref tb), .val (.int (2 : Int32)), .val (.int (2 : Int32)), .val (.int (2 : Int32)), .val (.int c1)] [(.int (2 : Int32)), (.int (2 : Int32))])) t → Steps p.tables e below (s₁.setTop (entryFrame m #[(.ref b), (.int (0 : Int32)), (.ref tb), (.int (0 : Int32)), (.int (2 : Int32))] 7)) t := fun t kt => by
    refine S24 t ?_
    show Steps p.tables e below (T23.setTop (mkF m 32 #[.val (.ref b), .val (.int (1 : Int32)), .val (.ref tb), .val (.int (1 : Int32)), .val (.int (2 : Int32)), .val (.int (1 : Int32)), .val (.int c1)] [])) t
    refine XS.iinc X23.here hx rfl (hb hby own_d5_32) rfl (l' := #[.val (.ref b), .val (.int (2 : Int32)), .val (.ref tb), .val (.int (1 : Int32)), .val (.int (2 : Int32)), .val (.int (1 : Int32)), .val (.int c1)]) rfl ?_
    refine XS.iinc X23.here hx rfl (hb hby own_d5_35) rfl (l' := #[.val (.ref b), .val (.int (2 : Int32)), .val (.ref tb), .val (.int (2 : Int32)), .val (.int (2 : Int32)), .val (.int (1 : Int32)), .val (.int c1)]) rfl ?_
    refine XS.iinc X23.here hx rfl (hb hby own_d5_38) rfl (l' := #[.val (.ref b), .val (.int (2 : Int32)), .val (.ref tb), .val (.int (2 : Int32)), .val (.int (2 : Int32)), .val (.int (2 : Int32)), .val (.int c1)]) rfl ?_
    refine XS.goto X23.here hx rfl (pc0 := 41) (pc' := 3) rfl (hb hby own_d5_41) (by decide) (by decide) ?_
    refine XS.iload X23.here hx rfl (hb hby own_d5_3) rfl ?_
    refine XS.iload X23.here hx rfl (hb hby own_d5_5) rfl ?_
    exact kt
  have hc7_30 : ¬ ((2 : Int32) < (2 : Int32)) := by decide
  have S31 : ∀ t, Steps p.tables e below (T23.setTop (mkF m 46 #[.val (.ref b), .val (.int (2 : Int32)), .val (.ref tb), .val (.int (2 : Int32)), .val (.int (2 : Int32)), .val (.int (2 : Int32)), .val (.int c1)] [(.int (2 : Int32))])) t → Steps p.tables e below (s₁.setTop (entryFrame m #[(.ref b), (.int (0 : Int32)), (.ref tb), (.int (0 : Int32)), (.int (2 : Int32))] 7)) t := fun t kt => by
    refine S29 t ?_
    show Steps p.tables e below (T23.setTop (mkF m 7 #[.val (.ref b), .val (.int (2 : Int32)), .val (.ref tb), .val (.int (2 : Int32)), .val (.int (2 : Int32)), .val (.int (2 : Int32)), .val (.int c1)] [(.int (2 : Int32)), (.int (2 : Int32))])) t
    refine XS.icmpYes X23.here hx rfl (pc0 := 7) (pc' := 44) rfl (hb hby own_d5_7) rfl (flt hc7_30).2.1 (by decide) (by decide) ?_
    refine XS.iload X23.here hx rfl (hb hby own_d5_44) rfl ?_
    exact kt
  obtain ⟨fs, hr, hrun, hended, hW, hsame⟩ := X23.leave (v := some (.int (2 : Int32))) (fun h => by rw [Bd.returns] at h; cases h)
  refine ⟨_, _, S31 _ ?_, hrun, hended, _, _, rfl, ?_, ⟨_, rfl⟩, hW, hsame.mono (by decide) (by decide)⟩
  · show Steps p.tables e below (T23.setTop (mkF m 46 #[.val (.ref b), .val (.int (2 : Int32)), .val (.ref tb), .val (.int (2 : Int32)), .val (.int (2 : Int32)), .val (.int (2 : Int32)), .val (.int c1)] [(.int (2 : Int32))])) _
    exact own_retI X23 hx Bd.returns (hb hby own_d5_46) hr
  · show own_Q5k2 Z b tb c0 c1 kb kt h0 n0 _ T23.heap _
    rw [e23]
    exact ⟨rfl, N27, K28, (by have q : Arv Z h23 tb kt .byte (2 : Int32) [(.int (nar .byte (c0.toInt8.toInt32))), (.int (nar .byte (c1.toInt8.toInt32)))] (.int (0 : Int32)) := V25; simp only [own_lolo] at q; exact q)⟩
theorem own_ef6k2 (m : MethodId) (x0 : Addr) (x1 : Int32) : entryFrame m #[(.ref x0), (.int x1)] 2 = mkF m 0 #[.val (.ref x0), .val (.int x1)] [] := by first | (simp [entryFrame, mkF, argsToLocals, Value.category]; done) | rfl
def own_Q6k2 (Z : State) (tb : Addr) (c0 : Int32) (c1 : Int32) (kt : ClassId) (h0 : Heap) (n0 : Nat) (v : Option Value) (h : Heap) (L : List Loc) : Prop := v = some (.int (0 : Int32)) ∧ L = [] ∧ h = h0
set_option maxHeartbeats 40000000 in
theorem own_rm6k2 (l : Launch) (Z : State) (a0 : Array Value) (hw : ∀ d ∈ tables_1, d.before a0 Z = true) (ws : List Jvm.Cond) (tb : Addr) (c0 : Int32) (c1 : Int32) (kt : ClassId) (h0 : Heap) (n0 : Nat) (Z0 : n0 ≤ h0.size) (V_t : Arv Z h0 tb kt .byte (2 : Int32) [(.int (own_lo c0)), (.int (own_lo c1))] (.int (0 : Int32))) :
    MetFree l (⟨"java/lang/StringUTF16", "coderFromArrayLen", "([BI)B"⟩ : MethodName) (head1 (Jvm.Cond.code (⟨"java/lang/StringUTF16", "coderFromArrayLen", "([BI)B"⟩ : MethodName) jdk_52_method_15_code 2 (some .byte) :: ws) ({ frames := 0, cells := 0, slots := 0, locals := 0 } : Room)) (fun argv U => argv = #[(.ref tb), (.int (2 : Int32))] ∧ Z.Warmed39 U.vm ∧ U.heap = h0) (fun _ _ _ _ _ => True) (fun _ U o U' => ∃ v L, o = .returned v ∧ own_Q6k2 Z tb c0 c1 kt h0 n0 v U'.heap L ∧ FrameEnd U o U' L ({ frames := 0, cells := 0, slots := 0, locals := 0 } : Room).cells ({ frames := 0, cells := 0, slots := 0, locals := 0 } : Room).slots) := by
  refine MetFree.of_bodySF (plainFor_of_name own_pn2) hisR ?_
  intro p e s m args below meth c s₁ Bd hml0 hP hK
  obtain ⟨rfl, hZ, hh⟩ := hP
  have hx := Bd.exec
  have hby := Bd.bytes
  have hml : c.maxLocals = 2 := hml0
  have hown : s.vm.findClass "java/lang/StringUTF16" = some m.cls := findClass_of_methodNamed Bd.named
  have hnm := (name_of_methodNamed Bd.named Bd.method).1
  have X0 : Stand p l e ({ frames := 0, cells := 0, slots := 0, locals := 0 } : Room) s m #[(.ref tb), (.int (2 : Int32))] below meth c s₁ [] 0 0 := Stand.of_body Bd
  have e0 : s₁.heap = h0 := by rw [← hh, Bd.state]; rfl
  have N0 := Fr.nil n0
  have pre0 : ∀ t, Steps p.tables e below (s₁.setTop (mkF m 0 #[.val (.ref tb), .val (.int (2 : Int32))] [])) t → Steps p.tables e below (s₁.setTop (entryFrame m #[(.ref tb), (.int (2 : Int32))] 2)) t := fun t k => castTop (own_ef6k2 m tb (2 : Int32)) k
  have S1 : ∀ t, Steps p.tables e below (s₁.setTop (mkF m 2 #[.val (.ref tb), .val (.int (2 : Int32))] [(.ref tb), (.int (2 : Int32))])) t → Steps p.tables e below (s₁.setTop (entryFrame m #[(.ref tb), (.int (2 : Int32))] 2)) t := fun t kt => by
    refine pre0 t ?_
    show Steps p.tables e below (s₁.setTop (mkF m 0 #[.val (.ref tb), .val (.int (2 : Int32))] [])) t
    refine XS.iloadN X0.here hx rfl (hb hby own_d6_0) rfl ?_
    refine XS.aloadN X0.here hx rfl (hb hby own_d6_1) rfl rfl ?_
    exact kt
  obtain ⟨cl2, Ar2, -, Sz2, Nn2, -, -⟩ := id V_t
  have S3 : ∀ t, Steps p.tables e below (s₁.setTop (mkF m 8 #[.val (.ref tb), .val (.int (2 : Int32))] [(.int ((((0 : Int32).toUInt32 >>> ((31 : Int32) &&& 31).toUInt32).toInt32).toInt8.toInt32))])) t → Steps p.tables e below (s₁.setTop (entryFrame m #[(.ref tb), (.int (2 : Int32))] 2)) t := fun t kt => by
    refine S1 t ?_
    show Steps p.tables e below (s₁.setTop (mkF m 2 #[.val (.ref tb), .val (.int (2 : Int32))] [(.ref tb), (.int (2 : Int32))])) t
    refine X0.arraylength hx (by rw [e0]; exact Ar2.1) (State.isArrayOf_alike hZ.alike Ar2.2.1) (g := (mkF m 2 #[.val (.ref tb), .val (.int (2 : Int32))] [(.ref tb), (.int (2 : Int32))])) rfl rfl (hb hby own_d6_2) _ ?_
    rw [len_of Sz2 Nn2]
    show Steps p.tables e below (s₁.setTop (mkF m 3 #[.val (.ref tb), .val (.int (2 : Int32))] [(.int (2 : Int32)), (.int (2 : Int32))])) t
    refine XS.isub X0.here hx rfl (hb hby own_d6_3) rfl ?_
    refine XS.bipush X0.here hx rfl (hb hby own_d6_4) ?_
    refine XS.iushr X0.here hx rfl (hb hby own_d6_6) rfl ?_
    refine XS.i2b X0.here hx rfl (hb hby own_d6_7) rfl ?_
    exact kt
  obtain ⟨fs, hr, hrun, hended, hW, hsame⟩ := X0.leave (v := some (.int (nar .byte ((((0 : Int32).toUInt32 >>> ((31 : Int32) &&& 31).toUInt32).toInt32).toInt8.toInt32)))) (fun h => by rw [Bd.returns] at h; cases h)
  refine ⟨_, _, S3 _ ?_, hrun, hended, _, _, rfl, ?_, ⟨_, rfl⟩, hW, hsame.mono (by decide) (by decide)⟩
  · show Steps p.tables e below (s₁.setTop (mkF m 8 #[.val (.ref tb), .val (.int (2 : Int32))] [(.int ((((0 : Int32).toUInt32 >>> ((31 : Int32) &&& 31).toUInt32).toInt32).toInt8.toInt32))])) _
    exact retN X0 hx (t := .byte) Bd.returns (by simp) (hb hby own_d6_8) hr
  · show own_Q6k2 Z tb c0 c1 kt h0 n0 _ s₁.heap _
    rw [e0]
    exact ⟨rfl, rfl, rfl⟩
theorem own_ef4k2 (m : MethodId) (x0 : Addr) (x1 : Int32) (x2 : Int32) : entryFrame m #[(.ref x0), (.int x1), (.int x2)] 6 = mkF m 0 #[.val (.ref x0), .val (.int x1), .val (.int x2), .unset, .unset, .unset] [] := by first | (simp [entryFrame, mkF, argsToLocals, Value.category]; done) | rfl
def own_Q4k2 (Z : State) (b : Addr) (c0 : Int32) (c1 : Int32) (kb : ClassId) (h0 : Heap) (n0 : Nat) (v : Option Value) (h : Heap) (L : List Loc) : Prop := ∃ (tb : Addr) (kt : ClassId), v = some (.ref tb) ∧ Fr n0 L ∧ n0 ≤ tb ∧ h0.size ≤ tb ∧ Keep h0 h [] ∧ Arv Z h tb kt .byte (2 : Int32) [(.int (own_lo c0)), (.int (own_lo c1))] (.int (0 : Int32))
set_option maxHeartbeats 40000000 in
theorem own_rm4k2 (l : Launch) (Z : State) (a0 : Array Value) (hw : ∀ d ∈ tables_1, d.before a0 Z = true) (ws : List Jvm.Cond) (b : Addr) (c0 : Int32) (c1 : Int32) (kb : ClassId) (h0 : Heap) (n0 : Nat) (Z0 : n0 ≤ h0.size) (V_b : Arv Z h0 b kb .char (2 : Int32) [(.int c0), (.int c1)] (.int (0 : Int32))) (hl0 : ¬ (255 : Int32) < c0) (hl1 : ¬ (255 : Int32) < c1) :
    MetFree l (⟨"java/lang/StringUTF16", "compress", "([CII)[B"⟩ : MethodName) (head1 (Jvm.Cond.code (⟨"java/lang/StringUTF16", "compress", "([CII)[B"⟩ : MethodName) jdk_52_method_16_code 6 (some (.array .byte)) :: ws) ({ frames := 1, cells := 1, slots := 2, locals := 18 } : Room)) (fun argv U => argv = #[(.ref b), (.int (0 : Int32)), (.int (2 : Int32))] ∧ Z.Warmed39 U.vm ∧ U.heap = h0) (fun _ _ _ _ _ => True) (fun _ U o U' => ∃ v L, o = .returned v ∧ own_Q4k2 Z b c0 c1 kb h0 n0 v U'.heap L ∧ FrameEnd U o U' L ({ frames := 1, cells := 1, slots := 2, locals := 18 } : Room).cells ({ frames := 1, cells := 1, slots := 2, locals := 18 } : Room).slots) := by
  refine MetFree.of_bodySF (plainFor_of_name own_pn2) hisR ?_
  intro p e s m args below meth c s₁ Bd hml0 hP hK
  obtain ⟨rfl, hZ, hh⟩ := hP
  have hx := Bd.exec
  have hby := Bd.bytes
  have hml : c.maxLocals = 6 := hml0
  have hown : s.vm.findClass "java/lang/StringUTF16" = some m.cls := findClass_of_methodNamed Bd.named
  have hnm := (name_of_methodNamed Bd.named Bd.method).1
  have X0 : Stand p l e ({ frames := 1, cells := 1, slots := 2, locals := 18 } : Room) s m #[(.ref b), (.int (0 : Int32)), (.int (2 : Int32))] below meth c s₁ [] 0 0 := Stand.of_body Bd
  have e0 : s₁.heap = h0 := by rw [← hh, Bd.state]; rfl
  have N0 := Fr.nil n0
  have pre0 : ∀ t, Steps p.tables e below (s₁.setTop (mkF m 0 #[.val (.ref b), .val (.int (0 : Int32)), .val (.int (2 : Int32)), .unset, .unset, .unset] [])) t → Steps p.tables e below (s₁.setTop (entryFrame m #[(.ref b), (.int (0 : Int32)), (.int (2 : Int32))] 6)) t := fun t k => castTop (own_ef4k2 m b (0 : Int32) (2 : Int32)) k
  have S1 : ∀ t, Steps p.tables e below (s₁.setTop (mkF m 1 #[.val (.ref b), .val (.int (0 : Int32)), .val (.int (2 : Int32)), .unset, .unset, .unset] [(.int (2 : Int32))])) t → Steps p.tables e below (s₁.setTop (entryFrame m #[(.ref b), (.int (0 : Int32)), (.int (2 : Int32))] 6)) t := fun t kt => by
    refine pre0 t ?_
    show Steps p.tables e below (s₁.setTop (mkF m 0 #[.val (.ref b), .val (.int (0 : Int32)), .val (.int (2 : Int32)), .unset, .unset, .unset] [])) t
    refine XS.iloadN X0.here hx rfl (hb hby own_d4_0) rfl ?_
    exact kt
  obtain ⟨T2, h2, k2, X2, e2, E2, A2, st2⟩ := newP X0 hx hZ (hw _ (List.mem_of_getElem? (i := 19) rfl)) e0 (g := (mkF m 1 #[.val (.ref b), .val (.int (0 : Int32)), .val (.int (2 : Int32)), .unset, .unset, .unset] [(.int (2 : Int32))])) rfl (hb hby own_d4_1) rfl (by decide) (cap := 2) (by decide) (by decide) (by decide) (by decide)
  obtain ⟨b2, g2⟩ : ∃ z, z = h0.size := ⟨_, rfl⟩
  rw [← g2] at A2 st2
  have S3 : ∀ t, Steps p.tables e below (T2.setTop (mkF m 3 #[.val (.ref b), .val (.int (0 : Int32)), .val (.int (2 : Int32)), .unset, .unset, .unset] [(.ref b2)])) t → Steps p.tables e below (s₁.setTop (entryFrame m #[(.ref b), (.int (0 : Int32)), (.int (2 : Int32))] 6)) t := fun t kt => S1 t (st2 _ kt)
  have g_b2 : n0 ≤ b2 := Nat.le_trans Z0 (Nat.le_of_eq g2.symm)
  have sz_b2 : h0.size ≤ b2 := Nat.le_trans (Keep.refl h0 []).1 (Nat.le_of_eq g2.symm)
  have ne_b_b2 : b ≠ b2 := Nat.ne_of_lt (Nat.lt_of_lt_of_le V_b.lt (Nat.le_of_eq g2.symm))
  have F4 := V_b.ext E2
  have K5 : Keep h0 h2 [] := (Keep.refl h0 []).ext E2
  have V6 : Arv Z h2 b2 k2 .byte (2 : Int32) [(.int (0 : Int32)), (.int (0 : Int32))] (.int (0 : Int32)) := (Arv.new A2 (by decide)).pad (pad_rep [] (.int (0 : Int32)) 2)
  have S9 : ∀ t, Steps p.tables e below (T2.setTop (mkF m 9 #[.val (.ref b), .val (.int (0 : Int32)), .val (.int (2 : Int32)), .val (.ref b2), .unset, .unset] [(.int (2 : Int32)), (.int (0 : Int32)), (.ref b2), (.int (0 : Int32)), (.ref b)])) t → Steps p.tables e below (s₁.setTop (entryFrame m #[(.ref b), (.int (0 : Int32)), (.int (2 : Int32))] 6)) t := fun t kt => by
    refine S3 t ?_
    show Steps p.tables e below (T2.setTop (mkF m 3 #[.val (.ref b), .val (.int (0 : Int32)), .val (.int (2 : Int32)), .unset, .unset, .unset] [(.ref b2)])) t
    refine XS.astoreN X2.here hx rfl (hb hby own_d4_3) rfl rfl (l' := #[.val (.ref b), .val (.int (0 : Int32)), .val (.int (2 : Int32)), .val (.ref b2), .unset, .unset]) rfl ?_
    refine XS.aloadN X2.here hx rfl (hb hby own_d4_4) rfl rfl ?_
    refine XS.iloadN X2.here hx rfl (hb hby own_d4_5) rfl ?_
    refine XS.aloadN X2.here hx rfl (hb hby own_d4_6) rfl rfl ?_
    refine XS.iconst X2.here hx rfl (hb hby own_d4_7) ?_
    refine XS.iloadN X2.here hx rfl (hb hby own_d4_8) rfl ?_
    exact kt
  obtain ⟨_, _, ⟨T10, L10, k10, n10⟩, -, X10, ⟨Lc10, hQ10, l10, y10, z10⟩, st10⟩ := Jvm.LawKit.callS X2 hx (y := (⟨"java/lang/StringUTF16", "compress", "([CI[BII)I"⟩ : MethodName)) hown (mvT hZ (hw _ (List.mem_of_getElem? (i := 20) rfl))) (mvT hZ (hw _ (List.mem_of_getElem? (i := 21) rfl))) (mvT hZ (hw _ (List.mem_of_getElem? (i := 17) rfl))) (mvT hZ (hw _ (List.mem_of_getElem? (i := 22) rfl))) (by decide) (backOf (W := 0) (own_rm5k2 l Z a0 hw [] (b) (b2) (c0) (c1) (kb) (k2) h2 n0 (Nat.le_trans Z0 K5.1) F4 V6 g_b2 ne_b_b2 hl0 hl1) hZ (hw _ (List.mem_of_getElem? (i := 22) rfl)) (hw _ (List.mem_of_getElem? (i := 17) rfl)) (by decide) (by decide)) (g := (mkF m 9 #[.val (.ref b), .val (.int (0 : Int32)), .val (.int (2 : Int32)), .val (.ref b2), .unset, .unset] [(.int (2 : Int32)), (.int (0 : Int32)), (.ref b2), (.int (0 : Int32)), (.ref b)])) rfl (by rw [hml]; rfl) (argsL := [(.ref b), (.int (0 : Int32)), (.ref b2), (.int (0 : Int32)), (.int (2 : Int32))]) (rest := []) (lenOf own_pd1 rfl) rfl (by show 2 * 0 + _ ≤ _; exact Nat.le_of_eq rfl) (hb hby own_d4_9) (fun _ _ => ⟨rfl, e2, (by decide : 1 + 0 ≤ _), (by decide : 2 + 0 ≤ _)⟩)
  dsimp only [Pt.U, Pt.locs, Pt.cells, Pt.slots] at X10 l10 y10 z10 st10 hQ10
  subst l10 y10 z10
  obtain ⟨rfl, Nq10, Kc7, Vc7⟩ := hQ10
  have N11 := Fr.app N0 Nq10
  have S12 : ∀ t, Steps p.tables e below (T10.setTop (mkF m 12 #[.val (.ref b), .val (.int (0 : Int32)), .val (.int (2 : Int32)), .val (.ref b2), .unset, .unset] [(.int (2 : Int32))])) t → Steps p.tables e below (s₁.setTop (entryFrame m #[(.ref b), (.int (0 : Int32)), (.int (2 : Int32))] 6)) t := fun t kt => S9 t (st10 _ kt)
  have F13 := F4.keep Kc7 (ninS ne_b_b2 nin0)
  have K14 : Keep h0 T10.heap [] := K5.trans Kc7 (allS (Or.inr sz_b2) all0)
  have S15 : ∀ t, Steps p.tables e below (T10.setTop (mkF m 17 #[.val (.ref b), .val (.int (0 : Int32)), .val (.int (2 : Int32)), .val (.ref b2), .val (.int (2 : Int32)), .unset] [(.int (2 : Int32)), (.int (2 : Int32))])) t → Steps p.tables e below (s₁.setTop (entryFrame m #[(.ref b), (.int (0 : Int32)), (.int (2 : Int32))] 6)) t := fun t kt => by
    refine S12 t ?_
    show Steps p.tables e below (T10.setTop (mkF m 12 #[.val (.ref b), .val (.int (0 : Int32)), .val (.int (2 : Int32)), .val (.ref b2), .unset, .unset] [(.int (2 : Int32))])) t
    refine XS.istore X10.here hx rfl (hb hby own_d4_12) rfl (l' := #[.val (.ref b), .val (.int (0 : Int32)), .val (.int (2 : Int32)), .val (.ref b2), .val (.int (2 : Int32)), .unset]) rfl ?_
    refine XS.iload X10.here hx rfl (hb hby own_d4_14) rfl ?_
    refine XS.iloadN X10.here hx rfl (hb hby own_d4_16) rfl ?_
    exact kt
  have hc17_16 : (2 : Int32) = (2 : Int32) := by decide
  have S17 : ∀ t, Steps p.tables e below (T10.setTop (mkF m 58 #[.val (.ref b), .val (.int (0 : Int32)), .val (.int (2 : Int32)), .val (.ref b2), .val (.int (2 : Int32)), .unset] [(.ref b2)])) t → Steps p.tables e below (s₁.setTop (entryFrame m #[(.ref b), (.int (0 : Int32)), (.int (2 : Int32))] 6)) t := fun t kt => by
    refine S15 t ?_
    show Steps p.tables e below (T10.setTop (mkF m 17 #[.val (.ref b), .val (.int (0 : Int32)), .val (.int (2 : Int32)), .val (.ref b2), .val (.int (2 : Int32)), .unset] [(.int (2 : Int32)), (.int (2 : Int32))])) t
    refine XS.icmpYes X10.here hx rfl (pc0 := 17) (pc' := 57) rfl (hb hby own_d4_17) rfl (teq hc17_16).1 (by decide) (by decide) ?_
    refine XS.aloadN X10.here hx rfl (hb hby own_d4_57) rfl rfl ?_
    exact kt
  obtain ⟨fs, hr, hrun, hended, hW, hsame⟩ := X10.leave (v := some (.ref b2)) (fun h => by rw [Bd.returns] at h; cases h)
  refine ⟨_, _, S17 _ ?_, hrun, hended, _, _, rfl, ?_, ⟨_, rfl⟩, hW, hsame.mono (by decide) (by decide)⟩
  · show Steps p.tables e below (T10.setTop (mkF m 58 #[.val (.ref b), .val (.int (0 : Int32)), .val (.int (2 : Int32)), .val (.ref b2), .val (.int (2 : Int32)), .unset] [(.ref b2)])) _
    jvm_step X10.here [X10.here.top, hx, (hb hby own_d4_58), X10.method', Bd.returns, Value.isRef, FieldType.isReference]
    first | (intro acts; rw [hr _ acts rfl rfl rfl]) | rw [hr _ _ rfl rfl rfl]
    exact Steps.refl _
  · show own_Q4k2 Z b c0 c1 kb h0 n0 _ T10.heap _
    exact ⟨b2, k2, rfl, N11, g_b2, sz_b2, K14, Vc7⟩
theorem own_ef2k2 (m : MethodId) (x0 : Addr) (x1 : Addr) (x2 : Int32) (x3 : Int32) : entryFrame m #[(.ref x0), (.ref x1), (.int x2), (.int x3), .null] 6 = mkF m 0 #[.val (.ref x0), .val (.ref x1), .val (.int x2), .val (.int x3), .val .null, .unset] [] := by first | (simp [entryFrame, mkF, argsToLocals, Value.category]; done) | rfl
def own_Q2k2 (Z : State) (a : Addr) (b : Addr) (c0 : Int32) (c1 : Int32) (kb : ClassId) (cs : Int32) (uv : Value) (uc : Value) (h0 : Heap) (n0 : Nat) (v : Option Value) (h : Heap) (L : List Loc) : Prop := v = none ∧ Fr n0 L ∧ Keep h0 h [a] ∧ Exa Z h a "java/lang/String" ∧ Fld Z h a "java/lang/String" "coder" "B" (.int (0 : Int32)) ∧ ∃ (tb : Addr) (kt : ClassId), n0 ≤ tb ∧ h0.size ≤ tb ∧ a ≠ tb ∧ Fld Z h a "java/lang/String" "value" "[B" (.ref tb) ∧ Arv Z h tb kt .byte (2 : Int32) [(.int (own_lo c0)), (.int (own_lo c1))] (.int (0 : Int32))
set_option maxHeartbeats 40000000 in
theorem own_rm2k2 (l : Launch) (Z : State) (a0 : Array Value) (hw : ∀ d ∈ tables_1, d.before a0 Z = true) (ws : List Jvm.Cond) (a : Addr) (b : Addr) (c0 : Int32) (c1 : Int32) (kb : ClassId) (cs : Int32) (uv : Value) (uc : Value) (h0 : Heap) (n0 : Nat) (Z0 : n0 ≤ h0.size) (E_a : Exa Z h0 a "java/lang/String") (g_a : n0 ≤ a) (F_value : Fld Z h0 a "java/lang/String" "value" "[B" uv) (F_coder : Fld Z h0 a "java/lang/String" "coder" "B" uc) (S_CS : Sta Z h0 "java/lang/String" "COMPACT_STRINGS" "Z" (.int cs)) (hcs : ¬ cs = (0 : Int32)) (V_b : Arv Z h0 b kb .char (2 : Int32) [(.int c0), (.int c1)] (.int (0 : Int32))) (hl0 : ¬ (255 : Int32) < c0) (hl1 : ¬ (255 : Int32) < c1) :
    MetFree l (⟨"java/lang/String", "<init>", "([CIILjava/lang/Void;)V"⟩ : MethodName) (head1 (Jvm.Cond.code (⟨"java/lang/String", "<init>", "([CIILjava/lang/Void;)V"⟩ : MethodName) jdk_42_method_149_code 6 none :: ws) ({ frames := 2, cells := 1, slots := 2, locals := 35 } : Room)) (fun argv U => argv = #[(.ref a), (.ref b), (.int (0 : Int32)), (.int (2 : Int32)), .null] ∧ Z.Warmed39 U.vm ∧ U.heap = h0) (fun _ _ _ _ _ => True) (fun _ U o U' => ∃ v L, o = .returned v ∧ own_Q2k2 Z a b c0 c1 kb cs uv uc h0 n0 v U'.heap L ∧ FrameEnd U o U' L ({ frames := 2, cells := 1, slots := 2, locals := 35 } : Room).cells ({ frames := 2, cells := 1, slots := 2, locals := 35 } : Room).slots) := by
  refine MetFree.of_bodySF (plainFor_of_name own_pn3) hisR ?_
  intro p e s m args below meth c s₁ Bd hml0 hP hK
  obtain ⟨rfl, hZ, hh⟩ := hP
  have hx := Bd.exec
  have hby := Bd.bytes
  have hml : c.maxLocals = 6 := hml0
  have hown : s.vm.findClass "java/lang/String" = some m.cls := findClass_of_methodNamed Bd.named
  have hnm := (name_of_methodNamed Bd.named Bd.method).1
  have X0 : Stand p l e ({ frames := 2, cells := 1, slots := 2, locals := 35 } : Room) s m #[(.ref a), (.ref b), (.int (0 : Int32)), (.int (2 : Int32)), .null] below meth c s₁ [] 0 0 := Stand.of_body Bd
  have e0 : s₁.heap = h0 := by rw [← hh, Bd.state]; rfl
  have N0 := Fr.nil n0
  have pre0 : ∀ t, Steps p.tables e below (s₁.setTop (mkF m 0 #[.val (.ref a), .val (.ref b), .val (.int (0 : Int32)), .val (.int (2 : Int32)), .val .null, .unset] [])) t → Steps p.tables e below (s₁.setTop (entryFrame m #[(.ref a), (.ref b), (.int (0 : Int32)), (.int (2 : Int32)), .null] 6)) t := fun t k => castTop (own_ef2k2 m a b (0 : Int32) (2 : Int32)) k
  have S1 : ∀ t, Steps p.tables e below (s₁.setTop (mkF m 1 #[.val (.ref a), .val (.ref b), .val (.int (0 : Int32)), .val (.int (2 : Int32)), .val .null, .unset] [(.ref a)])) t → Steps p.tables e below (s₁.setTop (entryFrame m #[(.ref a), (.ref b), (.int (0 : Int32)), (.int (2 : Int32)), .null] 6)) t := fun t kt => by
    refine pre0 t ?_
    show Steps p.tables e below (s₁.setTop (mkF m 0 #[.val (.ref a), .val (.ref b), .val (.int (0 : Int32)), .val (.int (2 : Int32)), .val .null, .unset] [])) t
    refine XS.aloadN X0.here hx rfl (hb hby own_d2_0) rfl rfl ?_
    exact kt
  obtain ⟨T2, X2, e2, st2⟩ := initO X0 hx hZ hown (hw _ (List.mem_of_getElem? (i := 11) rfl)) (hw _ (List.mem_of_getElem? (i := 12) rfl)) (hw _ (List.mem_of_getElem? (i := 13) rfl)) e0 (g := (mkF m 1 #[.val (.ref a), .val (.ref b), .val (.int (0 : Int32)), .val (.int (2 : Int32)), .val .null, .unset] [(.ref a)])) rfl (by rw [hml]; rfl) rfl (hb hby own_d2_1) (by decide) (W := 0) (by show 2 * 0 + _ ≤ _; exact Nat.le_of_eq rfl) (by decide)
  have S3 : ∀ t, Steps p.tables e below (T2.setTop (mkF m 4 #[.val (.ref a), .val (.ref b), .val (.int (0 : Int32)), .val (.int (2 : Int32)), .val .null, .unset] [])) t → Steps p.tables e below (s₁.setTop (entryFrame m #[(.ref a), (.ref b), (.int (0 : Int32)), (.int (2 : Int32)), .null] 6)) t := fun t kt => S1 t (st2 _ kt)
  have S4 : ∀ t, Steps p.tables e below (T2.setTop (mkF m 5 #[.val (.ref a), .val (.ref b), .val (.int (0 : Int32)), .val (.int (2 : Int32)), .val .null, .unset] [(.int (2 : Int32))])) t → Steps p.tables e below (s₁.setTop (entryFrame m #[(.ref a), (.ref b), (.int (0 : Int32)), (.int (2 : Int32)), .null] 6)) t := fun t kt => by
    refine S3 t ?_
    show Steps p.tables e below (T2.setTop (mkF m 4 #[.val (.ref a), .val (.ref b), .val (.int (0 : Int32)), .val (.int (2 : Int32)), .val .null, .unset] [])) t
    refine XS.iloadN X2.here hx rfl (hb hby own_d2_4) rfl ?_
    exact kt
  have hc5_5 : ¬ ((2 : Int32) = (0 : Int32)) := by decide
  have S6 : ∀ t, Steps p.tables e below (T2.setTop (mkF m 27 #[.val (.ref a), .val (.ref b), .val (.int (0 : Int32)), .val (.int (2 : Int32)), .val .null, .unset] [])) t → Steps p.tables e below (s₁.setTop (entryFrame m #[(.ref a), (.ref b), (.int (0 : Int32)), (.int (2 : Int32)), .null] 6)) t := fun t kt => by
    refine S4 t ?_
    show Steps p.tables e below (T2.setTop (mkF m 5 #[.val (.ref a), .val (.ref b), .val (.int (0 : Int32)), .val (.int (2 : Int32)), .val .null, .unset] [(.int (2 : Int32))])) t
    refine XS.ifYes X2.here hx rfl (pc0 := 5) (pc' := 27) rfl (hb hby own_d2_5) rfl ((if0 _ _).trans (feq hc5_5).2) (by decide) (by decide) ?_
    exact kt
  obtain ⟨T7, X7, e7, st7⟩ := getS2 X2 hx hZ hown (host := "") (Or.inl (hw _ (List.mem_of_getElem? (i := 14) rfl))) Via.refl e2 S_CS (g := (mkF m 27 #[.val (.ref a), .val (.ref b), .val (.int (0 : Int32)), .val (.int (2 : Int32)), .val .null, .unset] [])) rfl (hb hby own_d2_27)
  have S8 : ∀ t, Steps p.tables e below (T7.setTop (mkF m 30 #[.val (.ref a), .val (.ref b), .val (.int (0 : Int32)), .val (.int (2 : Int32)), .val .null, .unset] [(.int cs)])) t → Steps p.tables e below (s₁.setTop (entryFrame m #[(.ref a), (.ref b), (.int (0 : Int32)), (.int (2 : Int32)), .null] 6)) t := fun t kt => S6 t (st7 _ kt)
  have hc30_9 : ¬ (cs = (0 : Int32)) := hcs
  have S12 : ∀ t, Steps p.tables e below (T7.setTop (mkF m 36 #[.val (.ref a), .val (.ref b), .val (.int (0 : Int32)), .val (.int (2 : Int32)), .val .null, .unset] [(.int (2 : Int32)), (.int (0 : Int32)), (.ref b)])) t → Steps p.tables e below (s₁.setTop (entryFrame m #[(.ref a), (.ref b), (.int (0 : Int32)), (.int (2 : Int32)), .null] 6)) t := fun t kt => by
    refine S8 t ?_
    show Steps p.tables e below (T7.setTop (mkF m 30 #[.val (.ref a), .val (.ref b), .val (.int (0 : Int32)), .val (.int (2 : Int32)), .val .null, .unset] [(.int cs)])) t
    refine XS.ifNo X7.here hx rfl (hb hby own_d2_30) rfl ((if0 _ _).trans (feq hc30_9).1) ?_
    refine XS.aloadN X7.here hx rfl (hb hby own_d2_33) rfl rfl ?_
    refine XS.iloadN X7.here hx rfl (hb hby own_d2_34) rfl ?_
    refine XS.iloadN X7.here hx rfl (hb hby own_d2_35) rfl ?_
    exact kt
  obtain ⟨_, _, ⟨T13, L13, k13, n13⟩, -, X13, ⟨Lc13, hQ13, l13, y13, z13⟩, st13⟩ := Jvm.LawKit.callS X7 hx (y := (⟨"java/lang/StringUTF16", "compress", "([CII)[B"⟩ : MethodName)) hown (mvT hZ (hw _ (List.mem_of_getElem? (i := 15) rfl))) (mvT hZ (hw _ (List.mem_of_getElem? (i := 16) rfl))) (mvT hZ (hw _ (List.mem_of_getElem? (i := 17) rfl))) (mvT hZ (hw _ (List.mem_of_getElem? (i := 18) rfl))) (by decide) (backOf (W := 0) (own_rm4k2 l Z a0 hw [] (b) (c0) (c1) (kb) h0 n0 Z0 V_b hl0 hl1) hZ (hw _ (List.mem_of_getElem? (i := 18) rfl)) (hw _ (List.mem_of_getElem? (i := 17) rfl)) (by decide) (by decide)) (g := (mkF m 36 #[.val (.ref a), .val (.ref b), .val (.int (0 : Int32)), .val (.int (2 : Int32)), .val .null, .unset] [(.int (2 : Int32)), (.int (0 : Int32)), (.ref b)])) rfl (by rw [hml]; rfl) (argsL := [(.ref b), (.int (0 : Int32)), (.int (2 : Int32))]) (rest := []) (lenOf own_pd2 rfl) rfl (by show 2 * 0 + _ ≤ _; exact Nat.le_of_eq rfl) (hb hby own_d2_36) (fun _ _ => ⟨rfl, e7, (by decide : 0 + 1 ≤ _), (by decide : 0 + 2 ≤ _)⟩)
  dsimp only [Pt.U, Pt.locs, Pt.cells, Pt.slots] at X13 l13 y13 z13 st13 hQ13
  subst l13 y13 z13
  obtain ⟨tb10, kt10, rfl, Nq13, gt10, sz10, Kc10, Vc10⟩ := hQ13
  have N14 := Fr.app N0 Nq13
  have S15 : ∀ t, Steps p.tables e below (T13.setTop (mkF m 39 #[.val (.ref a), .val (.ref b), .val (.int (0 : Int32)), .val (.int (2 : Int32)), .val .null, .unset] [(.ref tb10)])) t → Steps p.tables e below (s₁.setTop (entryFrame m #[(.ref a), (.ref b), (.int (0 : Int32)), (.int (2 : Int32)), .null] 6)) t := fun t kt => S12 t (st13 _ kt)
  have F16 := E_a.keep Kc10
  have F17 := F_value.keep Kc10 nin0
  have F18 := F_coder.keep Kc10 nin0
  have F19 := own_StaK S_CS Kc10 all0
  have F20 := V_b.keep Kc10 nin0
  have K21 : Keep h0 T13.heap [a] := (Keep.refl h0 [a]).trans Kc10 all0
  have ne_a_tb10 : a ≠ tb10 := Nat.ne_of_lt (Nat.lt_of_lt_of_le E_a.lt sz10)
  have ne_b_tb10 : b ≠ tb10 := Nat.ne_of_lt (Nat.lt_of_lt_of_le V_b.lt sz10)
  have S23 : ∀ t, Steps p.tables e below (T13.setTop (mkF m 45 #[.val (.ref a), .val (.ref b), .val (.int (0 : Int32)), .val (.int (2 : Int32)), .val .null, .val (.ref tb10)] [(.int (2 : Int32)), (.ref tb10), (.ref a)])) t → Steps p.tables e below (s₁.setTop (entryFrame m #[(.ref a), (.ref b), (.int (0 : Int32)), (.int (2 : Int32)), .null] 6)) t := fun t kt => by
    refine S15 t ?_
    show Steps p.tables e below (T13.setTop (mkF m 39 #[.val (.ref a), .val (.ref b), .val (.int (0 : Int32)), .val (.int (2 : Int32)), .val .null, .unset] [(.ref tb10)])) t
    refine XS.astore X13.here hx rfl (hb hby own_d2_39) rfl rfl (l' := #[.val (.ref a), .val (.ref b), .val (.int (0 : Int32)), .val (.int (2 : Int32)), .val .null, .val (.ref tb10)]) rfl ?_
    refine XS.aloadN X13.here hx rfl (hb hby own_d2_41) rfl rfl ?_
    refine XS.aload X13.here hx rfl (hb hby own_d2_42) rfl rfl ?_
    refine XS.iloadN X13.here hx rfl (hb hby own_d2_44) rfl ?_
    exact kt
  obtain ⟨_, _, ⟨T24, L24, k24, n24⟩, -, X24, ⟨Lc24, hQ24, l24, y24, z24⟩, st24⟩ := Jvm.LawKit.callS X13 hx (y := (⟨"java/lang/StringUTF16", "coderFromArrayLen", "([BI)B"⟩ : MethodName)) hown (mvT hZ (hw _ (List.mem_of_getElem? (i := 23) rfl))) (mvT hZ (hw _ (List.mem_of_getElem? (i := 24) rfl))) (mvT hZ (hw _ (List.mem_of_getElem? (i := 17) rfl))) (mvT hZ (hw _ (List.mem_of_getElem? (i := 25) rfl))) (by decide) (backOf (W := 1) (own_rm6k2 l Z a0 hw [] (tb10) (c0) (c1) (kt10) T13.heap n0 (Nat.le_trans Z0 K21.1) Vc10) hZ (hw _ (List.mem_of_getElem? (i := 25) rfl)) (hw _ (List.mem_of_getElem? (i := 17) rfl)) (by decide) (by decide)) (g := (mkF m 45 #[.val (.ref a), .val (.ref b), .val (.int (0 : Int32)), .val (.int (2 : Int32)), .val .null, .val (.ref tb10)] [(.int (2 : Int32)), (.ref tb10), (.ref a)])) rfl (by rw [hml]; rfl) (argsL := [(.ref tb10), (.int (2 : Int32))]) (rest := [(.ref a)]) (lenOf own_pd3 rfl) rfl (by show 2 * 0 + _ ≤ _; exact Nat.le_of_eq rfl) (hb hby own_d2_45) (fun _ _ => ⟨rfl, rfl, (by decide : 1 + 0 ≤ _), (by decide : 2 + 0 ≤ _)⟩)
  dsimp only [Pt.U, Pt.locs, Pt.cells, Pt.slots] at X24 l24 y24 z24 st24 hQ24
  subst l24 y24 z24
  obtain ⟨rfl, rfl, eq22⟩ := hQ24
  try rw [List.append_nil] at X24
  have S25 : ∀ t, Steps p.tables e below (T24.setTop (mkF m 48 #[.val (.ref a), .val (.ref b), .val (.int (0 : Int32)), .val (.int (2 : Int32)), .val .null, .val (.ref tb10)] [(.int (0 : Int32)), (.ref a)])) t → Steps p.tables e below (s₁.setTop (entryFrame m #[(.ref a), (.ref b), (.int (0 : Int32)), (.int (2 : Int32)), .null] 6)) t := fun t kt => S23 t (st24 _ kt)
  obtain ⟨T26, h26, X26, e26, W26, st26⟩ := putFN X24 hx hZ hown (hw _ (List.mem_of_getElem? (i := 26) rfl)) Via.refl (eq22.trans rfl) F18 F16 (Or.inr ⟨(hw _ (List.mem_of_getElem? (i := 27) rfl)), rfl, hnm⟩) (hw _ (List.mem_of_getElem? (i := 1) rfl)) (ty := .byte) (v' := (.int (0 : Int32))) (by decide) rfl (by decide) (g := (mkF m 48 #[.val (.ref a), .val (.ref b), .val (.int (0 : Int32)), .val (.int (2 : Int32)), .val .null, .val (.ref tb10)] [(.int (0 : Int32)), (.ref a)])) rfl rfl (hb hby own_d2_48)
  have S27 : ∀ t, Steps p.tables e below (T26.setTop (mkF m 51 #[.val (.ref a), .val (.ref b), .val (.int (0 : Int32)), .val (.int (2 : Int32)), .val .null, .val (.ref tb10)] [])) t → Steps p.tables e below (s₁.setTop (entryFrame m #[(.ref a), (.ref b), (.int (0 : Int32)), (.int (2 : Int32)), .null] 6)) t := fun t kt => S25 t (st26 _ kt)
  have F28 := F16.wr W26
  have F29 := F17.other W26 (Or.inr (slot_ne (Or.inr (hw _ (List.mem_of_getElem? (i := 29) rfl))) (Or.inr (hw _ (List.mem_of_getElem? (i := 27) rfl))) (by decide) (t := (.array .byte)) (t' := .byte) (by decide) (by decide)))
  have F30 := F18.same W26
  have F31 := F19.wr W26
  have F32 := F20.other W26 (Ne.symm (Exa.neArv F16 F20 (hw _ (List.mem_of_getElem? (i := 1) rfl))))
  have F33 := Vc10.other W26 (Ne.symm ne_a_tb10)
  have N34 := Fr.snoc X26 N14 g_a
  have K35 : Keep h0 h26 [a] := K21.wr W26 (Or.inl (List.mem_of_getElem? (i := 0) rfl))
  have S36 : ∀ t, Steps p.tables e below (T26.setTop (mkF m 54 #[.val (.ref a), .val (.ref b), .val (.int (0 : Int32)), .val (.int (2 : Int32)), .val .null, .val (.ref tb10)] [(.ref tb10), (.ref a)])) t → Steps p.tables e below (s₁.setTop (entryFrame m #[(.ref a), (.ref b), (.int (0 : Int32)), (.int (2 : Int32)), .null] 6)) t := fun t kt => by
    refine S27 t ?_
    show Steps p.tables e below (T26.setTop (mkF m 51 #[.val (.ref a), .val (.ref b), .val (.int (0 : Int32)), .val (.int (2 : Int32)), .val .null, .val (.ref tb10)] [])) t
    refine XS.aloadN X26.here hx rfl (hb hby own_d2_51) rfl rfl ?_
    refine XS.aload X26.here hx rfl (hb hby own_d2_52) rfl rfl ?_
    exact kt
  obtain ⟨T37, h37, X37, e37, W37, st37⟩ := putF X26 hx hZ hown (host := "") (Or.inl (hw _ (List.mem_of_getElem? (i := 28) rfl))) Via.refl e26 F29 F28 (Or.inr ⟨(hw _ (List.mem_of_getElem? (i := 29) rfl)), rfl, hnm⟩) (hw _ (List.mem_of_getElem? (i := 1) rfl)) (ty := (.array .byte)) (by decide) rfl rfl (g := (mkF m 54 #[.val (.ref a), .val (.ref b), .val (.int (0 : Int32)), .val (.int (2 : Int32)), .val .null, .val (.ref tb10)] [(.ref tb10), (.ref a)])) rfl rfl (hb hby own_d2_54)
  have S38 : ∀ t, Steps p.tables e below (T37.setTop (mkF m 57 #[.val (.ref a), .val (.ref b), .val (.int (0 : Int32)), .val (.int (2 : Int32)), .val .null, .val (.ref tb10)] [])) t → Steps p.tables e below (s₁.setTop (entryFrame m #[(.ref a), (.ref b), (.int (0 : Int32)), (.int (2 : Int32)), .null] 6)) t := fun t kt => S36 t (st37 _ kt)
  have F39 := F28.wr W37
  have F40 := F29.same W37
  have F41 := F30.other W37 (Or.inr (slot_ne (Or.inr (hw _ (List.mem_of_getElem? (i := 27) rfl))) (Or.inr (hw _ (List.mem_of_getElem? (i := 29) rfl))) (by decide) (t := .byte) (t' := (.array .byte)) (by decide) (by decide)))
  have F42 := F31.wr W37
  have F43 := F32.other W37 (Ne.symm (Exa.neArv F28 F32 (hw _ (List.mem_of_getElem? (i := 1) rfl))))
  have F44 := F33.other W37 (Ne.symm ne_a_tb10)
  have N45 := Fr.snoc X37 N34 g_a
  have K46 : Keep h0 h37 [a] := K35.wr W37 (Or.inl (List.mem_of_getElem? (i := 0) rfl))
  obtain ⟨fs, hr, hrun, hended, hW, hsame⟩ := X37.leave (v := none) (fun _ => rfl)
  refine ⟨_, _, S38 _ ?_, hrun, hended, _, _, rfl, ?_, ⟨_, rfl⟩, hW, hsame.mono (by decide) (by decide)⟩
  · show Steps p.tables e below (T37.setTop (mkF m 57 #[.val (.ref a), .val (.ref b), .val (.int (0 : Int32)), .val (.int (2 : Int32)), .val .null, .val (.ref tb10)] [])) _
    exact X37.returnOut hx Bd.returns (hb hby own_d2_57) hr
  · show own_Q2k2 Z a b c0 c1 kb cs uv uc h0 n0 _ T37.heap _
    rw [e37]
    exact ⟨rfl, N45, K46, F39, F41, tb10, kt10, gt10, (Nat.le_trans (Keep.refl h0 [a]).1 sz10), ne_a_tb10, F40, F44⟩
theorem own_ef1k2 (m : MethodId) (x0 : Addr) (x1 : Addr) : entryFrame m #[(.ref x0), (.ref x1)] 2 = mkF m 0 #[.val (.ref x0), .val (.ref x1)] [] := by first | (simp [entryFrame, mkF, argsToLocals, Value.category]; done) | rfl
def own_Q1k2 (Z : State) (a : Addr) (b : Addr) (c0 : Int32) (c1 : Int32) (kb : ClassId) (cs : Int32) (uv : Value) (uc : Value) (h0 : Heap) (n0 : Nat) (v : Option Value) (h : Heap) (L : List Loc) : Prop := v = none ∧ Fr n0 L ∧ Keep h0 h [a] ∧ Exa Z h a "java/lang/String" ∧ Fld Z h a "java/lang/String" "coder" "B" (.int (0 : Int32)) ∧ ∃ (tb : Addr) (kt : ClassId), n0 ≤ tb ∧ h0.size ≤ tb ∧ a ≠ tb ∧ Fld Z h a "java/lang/String" "value" "[B" (.ref tb) ∧ Arv Z h tb kt .byte (2 : Int32) [(.int (own_lo c0)), (.int (own_lo c1))] (.int (0 : Int32))
set_option maxHeartbeats 40000000 in
theorem own_rm1k2 (l : Launch) (Z : State) (a0 : Array Value) (hw : ∀ d ∈ tables_1, d.before a0 Z = true) (ws : List Jvm.Cond) (a : Addr) (b : Addr) (c0 : Int32) (c1 : Int32) (kb : ClassId) (cs : Int32) (uv : Value) (uc : Value) (h0 : Heap) (n0 : Nat) (Z0 : n0 ≤ h0.size) (E_a : Exa Z h0 a "java/lang/String") (g_a : n0 ≤ a) (F_value : Fld Z h0 a "java/lang/String" "value" "[B" uv) (F_coder : Fld Z h0 a "java/lang/String" "coder" "B" uc) (S_CS : Sta Z h0 "java/lang/String" "COMPACT_STRINGS" "Z" (.int cs)) (hcs : ¬ cs = (0 : Int32)) (V_b : Arv Z h0 b kb .char (2 : Int32) [(.int c0), (.int c1)] (.int (0 : Int32))) (hl0 : ¬ (255 : Int32) < c0) (hl1 : ¬ (255 : Int32) < c1) :
    MetFree l (⟨"java/lang/String", "<init>", "([C)V"⟩ : MethodName) (head1 (Jvm.Cond.code (⟨"java/lang/String", "<init>", "([C)V"⟩ : MethodName) jdk_42_method_3_code 2 none :: ws) ({ frames := 3, cells := 1, slots := 2, locals := 52 } : Room)) (fun argv U => argv = #[(.ref a), (.ref b)] ∧ Z.Warmed39 U.vm ∧ U.heap = h0) (fun _ _ _ _ _ => True) (fun _ U o U' => ∃ v L, o = .returned v ∧ own_Q1k2 Z a b c0 c1 kb cs uv uc h0 n0 v U'.heap L ∧ FrameEnd U o U' L ({ frames := 3, cells := 1, slots := 2, locals := 52 } : Room).cells ({ frames := 3, cells := 1, slots := 2, locals := 52 } : Room).slots) := by
  refine MetFree.of_bodySF (plainFor_of_name own_pn3) hisR ?_
  intro p e s m args below meth c s₁ Bd hml0 hP hK
  obtain ⟨rfl, hZ, hh⟩ := hP
  have hx := Bd.exec
  have hby := Bd.bytes
  have hml : c.maxLocals = 2 := hml0
  have hown : s.vm.findClass "java/lang/String" = some m.cls := findClass_of_methodNamed Bd.named
  have hnm := (name_of_methodNamed Bd.named Bd.method).1
  have X0 : Stand p l e ({ frames := 3, cells := 1, slots := 2, locals := 52 } : Room) s m #[(.ref a), (.ref b)] below meth c s₁ [] 0 0 := Stand.of_body Bd
  have e0 : s₁.heap = h0 := by rw [← hh, Bd.state]; rfl
  have N0 := Fr.nil n0
  have pre0 : ∀ t, Steps p.tables e below (s₁.setTop (mkF m 0 #[.val (.ref a), .val (.ref b)] [])) t → Steps p.tables e below (s₁.setTop (entryFrame m #[(.ref a), (.ref b)] 2)) t := fun t k => castTop (own_ef1k2 m a b) k
  have S1 : ∀ t, Steps p.tables e below (s₁.setTop (mkF m 4 #[.val (.ref a), .val (.ref b)] [(.ref b), (.int (0 : Int32)), (.ref b), (.ref a)])) t → Steps p.tables e below (s₁.setTop (entryFrame m #[(.ref a), (.ref b)] 2)) t := fun t kt => by
    refine pre0 t ?_
    show Steps p.tables e below (s₁.setTop (mkF m 0 #[.val (.ref a), .val (.ref b)] [])) t
    refine XS.aloadN X0.here hx rfl (hb hby own_d1_0) rfl rfl ?_
    refine XS.aloadN X0.here hx rfl (hb hby own_d1_1) rfl rfl ?_
    refine XS.iconst X0.here hx rfl (hb hby own_d1_2) ?_
    refine XS.aloadN X0.here hx rfl (hb hby own_d1_3) rfl rfl ?_
    exact kt
  obtain ⟨cl2, Ar2, -, Sz2, Nn2, -, -⟩ := id V_b
  have S5 : ∀ t, Steps p.tables e below (s₁.setTop (mkF m 6 #[.val (.ref a), .val (.ref b)] [.null, (.int (2 : Int32)), (.int (0 : Int32)), (.ref b), (.ref a)])) t → Steps p.tables e below (s₁.setTop (entryFrame m #[(.ref a), (.ref b)] 2)) t := fun t kt => by
    refine S1 t ?_
    show Steps p.tables e below (s₁.setTop (mkF m 4 #[.val (.ref a), .val (.ref b)] [(.ref b), (.int (0 : Int32)), (.ref b), (.ref a)])) t
    refine X0.arraylength hx (by rw [e0]; exact Ar2.1) (State.isArrayOf_alike hZ.alike Ar2.2.1) (g := (mkF m 4 #[.val (.ref a), .val (.ref b)] [(.ref b), (.int (0 : Int32)), (.ref b), (.ref a)])) rfl rfl (hb hby own_d1_4) _ ?_
    rw [len_of Sz2 Nn2]
    show Steps p.tables e below (s₁.setTop (mkF m 5 #[.val (.ref a), .val (.ref b)] [(.int (2 : Int32)), (.int (0 : Int32)), (.ref b), (.ref a)])) t
    refine XS.aconstNull X0.here hx rfl (hb hby own_d1_5) ?_
    exact kt
  obtain ⟨_, _, ⟨T6, L6, k6, n6⟩, -, X6, ⟨Lc6, hQ6, l6, y6, z6⟩, st6⟩ := X0.specialBack hx (y := (⟨"java/lang/String", "<init>", "([CIILjava/lang/Void;)V"⟩ : MethodName)) rfl hown (mvT hZ (hw _ (List.mem_of_getElem? (i := 7) rfl))) (mvT hZ (hw _ (List.mem_of_getElem? (i := 8) rfl))) (mvT hZ (hw _ (List.mem_of_getElem? (i := 10) rfl))) (by decide) (backOf (W := 0) (own_rm2k2 l Z a0 hw [] (a) (b) (c0) (c1) (kb) (cs) (uv) (uc) h0 n0 Z0 E_a g_a F_value F_coder S_CS hcs V_b hl0 hl1) hZ (hw _ (List.mem_of_getElem? (i := 10) rfl)) (hw _ (List.mem_of_getElem? (i := 2) rfl)) (by decide) (by decide)) (g := (mkF m 6 #[.val (.ref a), .val (.ref b)] [.null, (.int (2 : Int32)), (.int (0 : Int32)), (.ref b), (.ref a)])) rfl (by rw [hml]; rfl) (Steps.refl _) (a := a) (argsL := [(.ref b), (.int (0 : Int32)), (.int (2 : Int32)), .null]) (rest := []) (lenOf own_pd4 rfl) rfl (by show 2 * 0 + _ ≤ _; exact Nat.le_of_eq rfl) (hb hby own_d1_6) (fun _ _ => ⟨rfl, e0, (by decide : 0 + 1 ≤ _), (by decide : 0 + 2 ≤ _)⟩)
  dsimp only [Pt.U, Pt.locs, Pt.cells, Pt.slots] at X6 l6 y6 z6 st6 hQ6
  subst l6 y6 z6
  obtain ⟨rfl, Nq6, Kc3, Ec3, Cc3, tb3, kt3, gt3, sz3, nat3, Fv3, Va3⟩ := hQ6
  have N7 := Fr.app N0 Nq6
  have S8 : ∀ t, Steps p.tables e below (T6.setTop (mkF m 9 #[.val (.ref a), .val (.ref b)] [])) t → Steps p.tables e below (s₁.setTop (entryFrame m #[(.ref a), (.ref b)] 2)) t := fun t kt => S5 t (st6.trans kt)
  have F9 := E_a.keep Kc3
  have F10 := own_StaK S_CS Kc3 (allS (own_ExaS E_a) all0)
  have F11 := V_b.keep Kc3 (ninS (Ne.symm (Exa.neArv E_a V_b (hw _ (List.mem_of_getElem? (i := 1) rfl)))) nin0)
  have K12 : Keep h0 T6.heap [a] := (Keep.refl h0 [a]).trans Kc3 (allS (Or.inl (List.mem_of_getElem? (i := 0) rfl)) all0)
  have ne_b_tb3 : b ≠ tb3 := Nat.ne_of_lt (Nat.lt_of_lt_of_le V_b.lt sz3)
  obtain ⟨fs, hr, hrun, hended, hW, hsame⟩ := X6.leave (v := none) (fun _ => rfl)
  refine ⟨_, _, S8 _ ?_, hrun, hended, _, _, rfl, ?_, ⟨_, rfl⟩, hW, hsame.mono (by decide) (by decide)⟩
  · show Steps p.tables e below (T6.setTop (mkF m 9 #[.val (.ref a), .val (.ref b)] [])) _
    exact X6.returnOut hx Bd.returns (hb hby own_d1_9) hr
  · show own_Q1k2 Z a b c0 c1 kb cs uv uc h0 n0 _ T6.heap _
    exact ⟨rfl, N7, K12, Ec3, Cc3, tb3, kt3, gt3, (Nat.le_trans (Keep.refl h0 [a]).1 sz3), nat3, Fv3, Va3⟩
theorem own_ef5k3 (m : MethodId) (x0 : Addr) (x1 : Int32) (x2 : Addr) (x3 : Int32) (x4 : Int32) : entryFrame m #[(.ref x0), (.int x1), (.ref x2), (.int x3), (.int x4)] 7 = mkF m 0 #[.val (.ref x0), .val (.int x1), .val (.ref x2), .val (.int x3), .val (.int x4), .unset, .unset] [] := by first | (simp [entryFrame, mkF, argsToLocals, Value.category]; done) | rfl
def own_Q5k3 (Z : State) (b : Addr) (tb : Addr) (c0 : Int32) (c1 : Int32) (c2 : Int32) (kb : ClassId) (kt : ClassId) (h0 : Heap) (n0 : Nat) (v : Option Value) (h : Heap) (L : List Loc) : Prop := v = some (.int (3 : Int32)) ∧ Fr n0 L ∧ Keep h0 h [tb] ∧ Arv Z h tb kt .byte (3 : Int32) [(.int (own_lo c0)), (.int (own_lo c1)), (.int (own_lo c2))] (.int (0 : Int32))
set_option maxHeartbeats 40000000 in
theorem own_rm5k3 (l : Launch) (Z : State) (a0 : Array Value) (hw : ∀ d ∈ tables_1, d.before a0 Z = true) (ws : List Jvm.Cond) (b : Addr) (tb : Addr) (c0 : Int32) (c1 : Int32) (c2 : Int32) (kb : ClassId) (kt : ClassId) (h0 : Heap) (n0 : Nat) (Z0 : n0 ≤ h0.size) (V_b : Arv Z h0 b kb .char (3 : Int32) [(.int c0), (.int c1), (.int c2)] (.int (0 : Int32))) (V_t : Arv Z h0 tb kt .byte (3 : Int32) [(.int (0 : Int32)), (.int (0 : Int32)), (.int (0 : Int32))] (.int (0 : Int32))) (g_tb : n0 ≤ tb) (ne_b_tb : b ≠ tb) (hl0 : ¬ (255 : Int32) < c0) (hl1 : ¬ (255 : Int32) < c1) (hl2 : ¬ (255 : Int32) < c2) :
    MetFree l (⟨"java/lang/StringUTF16", "compress", "([CI[BII)I"⟩ : MethodName) (head1 (Jvm.Cond.code (⟨"java/lang/StringUTF16", "compress", "([CI[BII)I"⟩ : MethodName) jdk_52_method_21_code 7 (some .int) :: ws) ({ frames := 0, cells := 0, slots := 0, locals := 0 } : Room)) (fun argv U => argv = #[(.ref b), (.int (0 : Int32)), (.ref tb), (.int (0 : Int32)), (.int (3 : Int32))] ∧ Z.Warmed39 U.vm ∧ U.heap = h0) (fun _ _ _ _ _ => True) (fun _ U o U' => ∃ v L, o = .returned v ∧ own_Q5k3 Z b tb c0 c1 c2 kb kt h0 n0 v U'.heap L ∧ FrameEnd U o U' L ({ frames := 0, cells := 0, slots := 0, locals := 0 } : Room).cells ({ frames := 0, cells := 0, slots := 0, locals := 0 } : Room).slots) := by
  refine MetFree.of_bodySF (plainFor_of_name own_pn2) hisR ?_
  intro p e s m args below meth c s₁ Bd hml0 hP hK
  obtain ⟨rfl, hZ, hh⟩ := hP
  have hx := Bd.exec
  have hby := Bd.bytes
  have hml : c.maxLocals = 7 := hml0
  have hown : s.vm.findClass "java/lang/StringUTF16" = some m.cls := findClass_of_methodNamed Bd.named
  have hnm := (name_of_methodNamed Bd.named Bd.method).1
  have X0 : Stand p l e ({ frames := 0, cells := 0, slots := 0, locals := 0 } : Room) s m #[(.ref b), (.int (0 : Int32)), (.ref tb), (.int (0 : Int32)), (.int (3 : Int32))] below meth c s₁ [] 0 0 := Stand.of_body Bd
  have e0 : s₁.heap = h0 := by rw [← hh, Bd.state]; rfl
  have N0 := Fr.nil n0
  have pre0 : ∀ t, Steps p.tables e below (s₁.setTop (mkF m 0 #[.val (.ref b), .val (.int (0 : Int32)), .val (.ref tb), .val (.int (0 : Int32)), .val (.int (3 : Int32)), .unset, .unset] [])) t → Steps p.tables e below (s₁.setTop (entryFrame m #[(.ref b), (.int (0 : Int32)), (.ref tb), (.int (0 : Int32)), (.int (3 : Int32))] 7)) t := fun t k => castTop (own_ef5k3 m b (0 : Int32) tb (0 : Int32) (3 : Int32)) k
  have S1 : ∀ t, Steps p.tables e below (s₁.setTop (mkF m 7 #[.val (.ref b), .val (.int (0 : Int32)), .val (.ref tb), .val (.int (0 : Int32)), .val (.int (3 : Int32)), .val (.int (0 : Int32)), .unset] [(.int (3 : Int32)), (.int (0 : Int32))])) t → Steps p.tables e below (s₁.setTop (entryFrame m #[(.ref b), (.int (0 : Int32)), (.ref tb), (.int (0 : Int32)), (.int (3 : Int32))] 7)) t := fun t kt => by
    refine pre0 t ?_
    show Steps p.tables e below (s₁.setTop (mkF m 0 #[.val (.ref b), .val (.int (0 : Int32)), .val (.ref tb), .val (.int (0 : Int32)), .val (.int (3 : Int32)), .unset, .unset] [])) t
    refine XS.iconst X0.here hx rfl (hb hby own_d5_0) ?_
    refine XS.istore X0.here hx rfl (hb hby own_d5_1) rfl (l' := #[.val (.ref b), .val (.int (0 : Int32)), .val (.ref tb), .val (.int (0 : Int32)), .val (.int (3 : Int32)), .val (.int (0 : Int32)), .unset]) rfl ?_
    refine XS.iload X0.here hx rfl (hb hby own_d5_3) rfl ?_
    refine XS.iload X0.here hx rfl (hb hby own_d5_5) rfl ?_
    exact kt
  have hc7_2 : (0 : Int32) < (3 : Int32) := by decide
  have S4 : ∀ t, Steps p.tables e below (s₁.setTop (mkF m 12 #[.val (.ref b), .val (.int (0 : Int32)), .val (.ref tb), .val (.int (0 : Int32)), .val (.int (3 : Int32)), .val (.int (0 : Int32)), .unset] [(.int (0 : Int32)), (.ref b)])) t → Steps p.tables e below (s₁.setTop (entryFrame m #[(.ref b), (.int (0 : Int32)), (.ref tb), (.int (0 : Int32)), (.int (3 : Int32))] 7)) t := fun t kt => by
    refine S1 t ?_
    show Steps p.tables e below (s₁.setTop (mkF m 7 #[.val (.ref b), .val (.int (0 : Int32)), .val (.ref tb), .val (.int (0 : Int32)), .val (.int (3 : Int32)), .val (.int (0 : Int32)), .unset] [(.int (3 : Int32)), (.int (0 : Int32))])) t
    refine XS.icmpNo X0.here hx rfl (hb hby own_d5_7) rfl (tlt hc7_2).2.1 ?_
    refine XS.aloadN X0.here hx rfl (hb hby own_d5_10) rfl rfl ?_
    refine XS.iloadN X0.here hx rfl (hb hby own_d5_11) rfl ?_
    exact kt
  obtain ⟨cl3, Ar3, -, Sz3, Nn3, Hh3, -⟩ := id V_b
  have hin3 : ¬ ((0 : Int32) < 0 ∨ cl3.slots.size ≤ ((0 : Int32)).toNatClampNeg) := inb_of Sz3 ⟨by decide, by decide⟩
  have S5 : ∀ t, Steps p.tables e below (s₁.setTop (mkF m 20 #[.val (.ref b), .val (.int (0 : Int32)), .val (.ref tb), .val (.int (0 : Int32)), .val (.int (3 : Int32)), .val (.int (0 : Int32)), .val (.int c0)] [(.int (255 : Int32)), (.int c0)])) t → Steps p.tables e below (s₁.setTop (entryFrame m #[(.ref b), (.int (0 : Int32)), (.ref tb), (.int (0 : Int32)), (.int (3 : Int32))] 7)) t := fun t kt => by
    refine S4 t ?_
    show Steps p.tables e below (s₁.setTop (mkF m 12 #[.val (.ref b), .val (.int (0 : Int32)), .val (.ref tb), .val (.int (0 : Int32)), .val (.int (3 : Int32)), .val (.int (0 : Int32)), .unset] [(.int (0 : Int32)), (.ref b)])) t
    refine X0.caload hx (j := (0 : Int32)) (v := (.int c0)) (by rw [e0]; exact Ar3.1) (State.isArrayOf_alike hZ.alike Ar3.2.1) Ar3.2.2 hin3 (Has.at Hh3 hin3 rfl) (g := (mkF m 12 #[.val (.ref b), .val (.int (0 : Int32)), .val (.ref tb), .val (.int (0 : Int32)), .val (.int (3 : Int32)), .val (.int (0 : Int32)), .unset] [(.int (0 : Int32)), (.ref b)])) rfl rfl (hb hby own_d5_12) _ ?_
    show Steps p.tables e below (s₁.setTop (mkF m 13 #[.val (.ref b), .val (.int (0 : Int32)), .val (.ref tb), .val (.int (0 : Int32)), .val (.int (3 : Int32)), .val (.int (0 : Int32)), .unset] [(.int c0)])) t
    refine XS.istore X0.here hx rfl (hb hby own_d5_13) rfl (l' := #[.val (.ref b), .val (.int (0 : Int32)), .val (.ref tb), .val (.int (0 : Int32)), .val (.int (3 : Int32)), .val (.int (0 : Int32)), .val (.int c0)]) rfl ?_
    refine XS.iload X0.here hx rfl (hb hby own_d5_15) rfl ?_
    refine XS.sipush X0.here hx rfl (hb hby own_d5_17) ?_
    exact kt
  have hc20_6 : ¬ ((255 : Int32) < c0) := hl0
  have S7 : ∀ t, Steps p.tables e below (s₁.setTop (mkF m 31 #[.val (.ref b), .val (.int (0 : Int32)), .val (.ref tb), .val (.int (0 : Int32)), .val (.int (3 : Int32)), .val (.int (0 : Int32)), .val (.int c0)] [(.int (c0.toInt8.toInt32)), (.int (0 : Int32)), (.ref tb)])) t → Steps p.tables e below (s₁.setTop (entryFrame m #[(.ref b), (.int (0 : Int32)), (.ref tb), (.int (0 : Int32)), (.int (3 : Int32))] 7)) t := fun t kt => by
    refine S5 t ?_
    show Steps p.tables e below (s₁.setTop (mkF m 20 #[.val (.ref b), .val (.int (0 : Int32)), .val (.ref tb), .val (.int (0 : Int32)), .val (.int (3 : Int32)), .val (.int (0 : Int32)), .val (.int c0)] [(.int (255 : Int32)), (.int c0)])) t
    refine XS.icmpYes X0.here hx rfl (pc0 := 20) (pc' := 26) rfl (hb hby own_d5_20) rfl (flt hc20_6).2.2.2 (by decide) (by decide) ?_
    refine XS.aloadN X0.here hx rfl (hb hby own_d5_26) rfl rfl ?_
    refine XS.iloadN X0.here hx rfl (hb hby own_d5_27) rfl ?_
    refine XS.iload X0.here hx rfl (hb hby own_d5_28) rfl ?_
    refine XS.i2b X0.here hx rfl (hb hby own_d5_30) rfl ?_
    exact kt
  obtain ⟨cl8, Ar8, q8, Sz8, Nn8, Hh8, Gg8⟩ := id V_t
  have hin8 : ¬ ((0 : Int32) < 0 ∨ cl8.slots.size ≤ ((0 : Int32)).toNatClampNeg) := inb_of Sz8 ⟨by decide, by decide⟩
  obtain ⟨T9, h9, X9, e9, W9, st9⟩ := stB X0 hx hZ e0 Ar8 (j := (0 : Int32)) hin8 (g := (mkF m 31 #[.val (.ref b), .val (.int (0 : Int32)), .val (.ref tb), .val (.int (0 : Int32)), .val (.int (3 : Int32)), .val (.int (0 : Int32)), .val (.int c0)] [(.int (c0.toInt8.toInt32)), (.int (0 : Int32)), (.ref tb)])) rfl rfl (hb hby own_d5_31)
  have S10 : ∀ t, Steps p.tables e below (T9.setTop (mkF m 32 #[.val (.ref b), .val (.int (0 : Int32)), .val (.ref tb), .val (.int (0 : Int32)), .val (.int (3 : Int32)), .val (.int (0 : Int32)), .val (.int c0)] [])) t → Steps p.tables e below (s₁.setTop (entryFrame m #[(.ref b), (.int (0 : Int32)), (.ref tb), (.int (0 : Int32)), (.int (3 : Int32))] 7)) t := fun t kt => S7 t (st9 _ kt)
  have V11 := Arv.set Ar8 q8 Sz8 Nn8 Hh8 Gg8 (fits_nar_byte _) W9 0 rfl (Nat.le_of_ble_eq_true rfl)
  have F12 := V_b.other W9 ne_b_tb
  have N13 := Fr.snoc X9 N0 g_tb
  have K14 : Keep h0 h9 [tb] := (Keep.refl h0 [tb]).wr W9 (Or.inl (List.mem_of_getElem? (i := 0) rfl))
  have S15 : ∀ t, Steps p.tables e below (T9.setTop (mkF m 7 #[.val (.ref b), .val (.int (1 : Int32)), .val (.ref tb), .val (.int (1 : Int32)), .val (.int (3 : Int32)), .val (.int (1 : Int32)), .val (.int c0)] [(.int (3 : Int32)), (.int (1 : Int32))])) t → Steps p.tables e below (s₁.setTop (entryFrame m #[(.ref b), (.int (0 : Int32)), (.ref tb), (.int (0 : Int32)), (.int (3 : Int32))] 7)) t := fun t kt => by
    refine S10 t ?_
    show Steps p.tables e below (T9.setTop (mkF m 32 #[.val (.ref b), .val (.int (0 : Int32)), .val (.ref tb), .val (.int (0 : Int32)), .val (.int (3 : Int32)), .val (.int (0 : Int32)), .val (.int c0)] [])) t
    refine XS.iinc X9.here hx rfl (hb hby own_d5_32) rfl (l' := #[.val (.ref b), .val (.int (1 : Int32)), .val (.ref tb), .val (.int (0 : Int32)), .val (.int (3 : Int32)), .val (.int (0 : Int32)), .val (.int c0)]) rfl ?_
    refine XS.iinc X9.here hx rfl (hb hby own_d5_35) rfl (l' := #[.val (.ref b), .val (.int (1 : Int32)), .val (.ref tb), .val (.int (1 : Int32)), .val (.int (3 : Int32)), .val (.int (0 : Int32)), .val (.int c0)]) rfl ?_
    refine XS.iinc X9.here hx rfl (hb hby own_d5_38) rfl (l' := #[.val (.ref b), .val (.int (1 : Int32)), .val (.ref tb), .val (.int (1 : Int32)), .val (.int (3 : Int32)), .val (.int (1 : Int32)), .val (.int c0)]) rfl ?_
    refine XS.goto X9.here hx rfl (pc0 := 41) (pc' := 3) rfl (hb hby own_d5_41) (by decide) (by decide) ?_
    refine XS.iload X9.here hx rfl (hb hby own_d5_3) rfl ?_
    refine XS.iload X9.here hx rfl (hb hby own_d5_5) rfl ?_
    exact kt
  have hc7_16 : (1 : Int32) < (3 : Int32) := by decide
  have S18 : ∀ t, Steps p.tables e below (T9.setTop (mkF m 12 #[.val (.ref b), .val (.int (1 : Int32)), .val (.ref tb), .val (.int (1 : Int32)), .val (.int (3 : Int32)), .val (.int (1 : Int32)), .val (.int c0)] [(.int (1 : Int32)), (.ref b)])) t → Steps p.tables e below (s₁.setTop (entryFrame m #[(.ref b), (.int (0 : Int32)), (.ref tb), (.int (0 : Int32)), (.int (3 : Int32))] 7)) t := fun t kt => by
    refine S15 t ?_
    show Steps p.tables e below (T9.setTop (mkF m 7 #[.val (.ref b), .val (.int (1 : Int32)), .val (.ref tb), .val (.int (1 : Int32)), .val (.int (3 : Int32)), .val (.int (1 : Int32)), .val (.int c0)] [(.int (3 : Int32)), (.int (1 : Int32))])) t
    refine XS.icmpNo X9.here hx rfl (hb hby own_d5_7) rfl (tlt hc7_16).2.1 ?_
    refine XS.aloadN X9.here hx rfl (hb hby own_d5_10) rfl rfl ?_
    refine XS.iloadN X9.here hx rfl (hb hby own_d5_11) rfl ?_
    exact kt
  obtain ⟨cl17, Ar17, -, Sz17, Nn17, Hh17, -⟩ := id F12
  have hin17 : ¬ ((1 : Int32) < 0 ∨ cl17.slots.size ≤ ((1 : Int32)).toNatClampNeg) := inb_of Sz17 ⟨by decide, by decide⟩
  have S19 : ∀ t, Steps p.tables e below (T9.setTop (mkF m 20 #[.val (.ref b), .val (.int (1 : Int32)), .val (.ref tb), .val (.int (1 : Int32)), .val (.int (3 : Int32)), .val (.int (1 : Int32)), .val (.int c1)] [(.int (255 : Int32)), (.int c1)])) t → Steps p.tables e below (s₁.setTop (entryFrame m #[(.ref b), (.int (0 : Int32)), (.ref tb), (.int (0 : Int32)), (.int (3 : Int32))] 7)) t := fun t kt => by
    refine S18 t ?_
    show Steps p.tables e below (T9.setTop (mkF m 12 #[.val (.ref b), .val (.int (1 : Int32)), .val (.ref tb), .val (.int (1 : Int32)), .val (.int (3 : Int32)), .val (.int (1 : Int32)), .val (.int c0)] [(.int (1 : Int32)), (.ref b)])) t
    refine X9.caload hx (j := (1 : Int32)) (v := (.int c1)) (by rw [e9]; exact Ar17.1) (State.isArrayOf_alike hZ.alike Ar17.2.1) Ar17.2.2 hin17 (Has.at Hh17 hin17 rfl) (g := (mkF m 12 #[.val (.ref b), .val (.int (1 : Int32)), .val (.ref tb), .val (.int (1 : Int32)), .val (.int (3 : Int32)), .val (.int (1 : Int32)), .val (.int c0)] [(.int (1 : Int32)), (.ref b)])) rfl rfl (hb hby own_d5_12) _ ?_
    show Steps p.tables e below (T9.setTop (mkF m 13 #[.val (.ref b), .val (.int (1 : Int32)), .val (.ref tb), .val (.int (1 : Int32)), .val (.int (3 : Int32)), .val (.int (1 : Int32)), .val (.int c0)] [(.int c1)])) t
    refine XS.istore X9.here hx rfl (hb hby own_d5_13) rfl (l' := #[.val (.ref b), .val (.int (1 : Int32)), .val (.ref tb), .val (.int (1 : Int32)), .val (.int (3 : Int32)), .val (.int (1 : Int32)), .val (.int c1)]) rfl ?_
    refine XS.iload X9.here hx rfl (hb hby own_d5_15) rfl ?_
    refine XS.sipush X9.here hx rfl (hb hby own_d5_17) ?_
    exact kt
  have hc20_20 : ¬ ((255 : Int32) < c1) := hl1
  have S21 : ∀ t, Steps p.tables e below (T9.setTop (mkF m 31 #[.val (.ref b), .val (.int (1 : Int32)), .val (.ref tb), .val (.int (1 : Int32)), .val (.int (3 : Int32)), .val (.int (1 : Int32)), .val (.int c1)] [(.int (c1.toInt8.toInt32)), (.int (1 : Int32)), (.ref tb)])) t → Steps p.tables e below (s₁.setTop (entryFrame m #[(.ref b), (.int (0 : Int32)), (.ref tb), (.int (0 : Int32)), (.int (3 : Int32))] 7)) t := fun t kt => by
    refine S19 t ?_
    show Steps p.tables e below (T9.setTop (mkF m 20 #[.val (.ref b), .val (.int (1 : Int32)), .val (.ref tb), .val (.int (1 : Int32)), .val (.int (3 : Int32)), .val (.int (1 : Int32)), .val (.int c1)] [(.int (255 : Int32)), (.int c1)])) t
    refine XS.icmpYes X9.here hx rfl (pc0 := 20) (pc' := 26) rfl (hb hby own_d5_20) rfl (flt hc20_20).2.2.2 (by decide) (by decide) ?_
    refine XS.aloadN X9.here hx rfl (hb hby own_d5_26) rfl rfl ?_
    refine XS.iloadN X9.here hx rfl (hb hby own_d5_27) rfl ?_
    refine XS.iload X9.here hx rfl (hb hby own_d5_28) rfl ?_
    refine XS.i2b X9.here hx rfl (hb hby own_d5_30) rfl ?_
    exact kt
  obtain ⟨cl22, Ar22, q22, Sz22, Nn22, Hh22, Gg22⟩ := id V11
  have hin22 : ¬ ((1 : Int32) < 0 ∨ cl22.slots.size ≤ ((1 : Int32)).toNatClampNeg) := inb_of Sz22 ⟨by decide, by decide⟩
  obtain ⟨T23, h23, X23, e23, W23, st23⟩ := stB X9 hx hZ e9 Ar22 (j := (1 : Int32)) hin22 (g := (mkF m 31 #[.val (.ref b), .val (.int (1 : Int32)), .val (.ref tb), .val (.int (1 : Int32)), .val (.int (3 : Int32)), .val (.int (1 : Int32)), .val (.int c1)] [(.int (c1.toInt8.toInt32)), (.int (1 : Int32)), (.ref tb)])) rfl rfl (hb hby own_d5_31)
  have S24 : ∀ t, Steps p.tables e below (T23.setTop (mkF m 32 #[.val (.ref b), .val (.int (1 : Int32)), .val (.ref tb), .val (.int (1 : Int32)), .val (.int (3 : Int32)), .val (.int (1 : Int32)), .val (.int c1)] [])) t → Steps p.tables e below (s₁.setTop (entryFrame m #[(.ref b), (.int (0 : Int32)), (.ref tb), (.int (0 : Int32)), (.int (3 : Int32))] 7)) t := fun t kt => S21 t (st23 _ kt)
  have V25 := Arv.set Ar22 q22 Sz22 Nn22 Hh22 Gg22 (fits_nar_byte _) W23 1 rfl (Nat.le_of_ble_eq_true rfl)
  have F26 := F12.other W23 ne_b_tb
  have N27 := Fr.snoc X23 N13 g_tb
  have K28 : Keep h0 h23 [tb] := K14.wr W23 (Or.inl (List.mem_of_getElem? (i := 0) rfl))
  have S29 : ∀ t, Steps p.tables e below (T23.setTop (mkF m 7 #[.val (.ref b), .val (.int (2 : Int32)), .val (.ref tb), .val (.int (2 : Int32)), .val (.int (3 : Int32)), .val (.int (2 : Int32)), .val (.int c1)] [(.int (3 : Int32)), (.int (2 : Int32))])) t → Steps p.tables e below (s₁.setTop (entryFrame m #[(.ref b), (.int (0 : Int32)), (.ref tb), (.int (0 : Int32)), (.int (3 : Int32))] 7)) t := fun t kt => by
    refine S24 t ?_
    show Steps p.tables e below (T23.setTop (mkF m 32 #[.val (.ref b), .val (.int (1 : Int32)), .val (.ref tb), .val (.int (1 : Int32)), .val (.int (3 : Int32)), .val (.int (1 : Int32)), .val (.int c1)] [])) t
    refine XS.iinc X23.here hx rfl (hb hby own_d5_32) rfl (l' := #[.val (.ref b), .val (.int (2 : Int32)), .val (.ref tb), .val (.int (1 : Int32)), .val (.int (3 : Int32)), .val (.int (1 : Int32)), .val (.int c1)]) rfl ?_
    refine XS.iinc X23.here hx rfl (hb hby own_d5_35) rfl (l' := #[.val (.ref b), .val (.int (2 : Int32)), .val (.ref tb), .val (.int (2 : Int32)), .val (.int (3 : Int32)), .val (.int (1 : Int32)), .val (.int c1)]) rfl ?_
    refine XS.iinc X23.here hx rfl (hb hby own_d5_38) rfl (l' := #[.val (.ref b), .val (.int (2 : Int32)), .val (.ref tb), .val (.int (2 : Int32)), .val (.int (3 : Int32)), .val (.int (2 : Int32)), .val (.int c1)]) rfl ?_
    refine XS.goto X23.here hx rfl (pc0 := 41) (pc' := 3) rfl (hb hby own_d5_41) (by decide) (by decide) ?_
    refine XS.iload X23.here hx rfl (hb hby own_d5_3) rfl ?_
    refine XS.iload X23.here hx rfl (hb hby own_d5_5) rfl ?_
    exact kt
  have hc7_30 : (2 : Int32) < (3 : Int32) := by decide
  have S32 : ∀ t, Steps p.tables e below (T23.setTop (mkF m 12 #[.val (.ref b), .val (.int (2 : Int32)), .val (.ref tb), .val (.int (2 : Int32)), .val (.int (3 : Int32)), .val (.int (2 : Int32)), .val (.int c1)] [(.int (2 : Int32)), (.ref b)])) t → Steps p.tables e below (s₁.setTop (entryFrame m #[(.ref b), (.int (0 : Int32)), (.ref tb), (.int (0 : Int32)), (.int (3 : Int32))] 7)) t := fun t kt => by
    refine S29 t ?_
    show Steps p.tables e below (T23.setTop (mkF m 7 #[.val (.ref b), .val (.int (2 : Int32)), .val (.ref tb), .val (.int (2 : Int32)), .val (.int (3 : Int32)), .val (.int (2 : Int32)), .val (.int c1)] [(.int (3 : Int32)), (.int (2 : Int32))])) t
    refine XS.icmpNo X23.here hx rfl (hb hby own_d5_7) rfl (tlt hc7_30).2.1 ?_
    refine XS.aloadN X23.here hx rfl (hb hby own_d5_10) rfl rfl ?_
    refine XS.iloadN X23.here hx rfl (hb hby own_d5_11) rfl ?_
    exact kt
  obtain ⟨cl31, Ar31, -, Sz31, Nn31, Hh31, -⟩ := id F26
  have hin31 : ¬ ((2 : Int32) < 0 ∨ cl31.slots.size ≤ ((2 : Int32)).toNatClampNeg) := inb_of Sz31 ⟨by decide, by decide⟩
  have S33 : ∀ t, Steps p.tables e below (T23.setTop (mkF m 20 #[.val (.ref b), .val (.int (2 : Int32)), .val (.ref tb), .val (.int (2 : Int32)), .val (.int (3 : Int32)), .val (.int (2 : Int32)), .val (.int c2)] [(.int (255 : Int32)), (.int c2)])) t → Steps p.tables e below (s₁.setTop (entryFrame m #[(.ref b), (.int (0 : Int32)), (.ref tb), (.int (0 : Int32)), (.int (3 : Int32))] 7)) t := fun t kt => by
    refine S32 t ?_
    show Steps p.tables e below (T23.setTop (mkF m 12 #[.val (.ref b), .val (.int (2 : Int32)), .val (.ref tb), .val (.int (2 : Int32)), .val (.int (3 : Int32)), .val (.int (2 : Int32)), .val (.int c1)] [(.int (2 : Int32)), (.ref b)])) t
    refine X23.caload hx (j := (2 : Int32)) (v := (.int c2)) (by rw [e23]; exact Ar31.1) (State.isArrayOf_alike hZ.alike Ar31.2.1) Ar31.2.2 hin31 (Has.at Hh31 hin31 rfl) (g := (mkF m 12 #[.val (.ref b), .val (.int (2 : Int32)), .val (.ref tb), .val (.int (2 : Int32)), .val (.int (3 : Int32)), .val (.int (2 : Int32)), .val (.int c1)] [(.int (2 : Int32)), (.ref b)])) rfl rfl (hb hby own_d5_12) _ ?_
    show Steps p.tables e below (T23.setTop (mkF m 13 #[.val (.ref b), .val (.int (2 : Int32)), .val (.ref tb), .val (.int (2 : Int32)), .val (.int (3 : Int32)), .val (.int (2 : Int32)), .val (.int c1)] [(.int c2)])) t
    refine XS.istore X23.here hx rfl (hb hby own_d5_13) rfl (l' := #[.val (.ref b), .val (.int (2 : Int32)), .val (.ref tb), .val (.int (2 : Int32)), .val (.int (3 : Int32)), .val (.int (2 : Int32)), .val (.int c2)]) rfl ?_
    refine XS.iload X23.here hx rfl (hb hby own_d5_15) rfl ?_
    refine XS.sipush X23.here hx rfl (hb hby own_d5_17) ?_
    exact kt
  have hc20_34 : ¬ ((255 : Int32) < c2) := hl2
  have S35 : ∀ t, Steps p.tables e below (T23.setTop (mkF m 31 #[.val (.ref b), .val (.int (2 : Int32)), .val (.ref tb), .val (.int (2 : Int32)), .val (.int (3 : Int32)), .val (.int (2 : Int32)), .val (.int c2)] [(.int (c2.toInt8.toInt32)), (.int (2 : Int32)), (.ref tb)])) t → Steps p.tables e below (s₁.setTop (entryFrame m #[(.ref b), (.int (0 : Int32)), (.ref tb), (.int (0 : Int32)), (.int (3 : Int32))] 7)) t := fun t kt => by
    refine S33 t ?_
    show Steps p.tables e below (T23.setTop (mkF m 20 #[.val (.ref b), .val (.int (2 : Int32)), .val (.ref tb), .val (.int (2 : Int32)), .val (.int (3 : Int32)), .val (.int (2 : Int32)), .val (.int c2)] [(.int (255 : Int32)), (.int c2)])) t
    refine XS.icmpYes X23.here hx rfl (pc0 := 20) (pc' := 26) rfl (hb hby own_d5_20) rfl (flt hc20_34).2.2.2 (by decide) (by decide) ?_
    refine XS.aloadN X23.here hx rfl (hb hby own_d5_26) rfl rfl ?_
    refine XS.iloadN X23.here hx rfl (hb hby own_d5_27) rfl ?_
    refine XS.iload X23.here hx rfl (hb hby own_d5_28) rfl ?_
    refine XS.i2b X23.here hx rfl (hb hby own_d5_30) rfl ?_
    exact kt
  obtain ⟨cl36, Ar36, q36, Sz36, Nn36, Hh36, Gg36⟩ := id V25
  have hin36 : ¬ ((2 : Int32) < 0 ∨ cl36.slots.size ≤ ((2 : Int32)).toNatClampNeg) := inb_of Sz36 ⟨by decide, by decide⟩
  obtain ⟨T37, h37, X37, e37, W37, st37⟩ := stB X23 hx hZ e23 Ar36 (j := (2 : Int32)) hin36 (g := (mkF m 31 #[.val (.ref b), .val (.int (2 : Int32)), .val (.ref tb), .val (.int (2 : Int32)), .val (.int (3 : Int32)), .val (.int (2 : Int32)), .val (.int c2)] [(.int (c2.toInt8.toInt32)), (.int (2 : Int32)), (.ref tb)])) rfl rfl (hb hby own_d5_31)
  have S38 : ∀ t, Steps p.tables e below (T37.setTop (mkF m 32 #[.val (.ref b), .val (.int (2 : Int32)), .val (.ref tb), .val (.int (2 : Int32)), .val (.int (3 : Int32)), .val (.int (2 : Int32)), .val (.int c2)] [])) t → Steps p.tables e below (s₁.setTop (entryFrame m #[(.ref b), (.int (0 : Int32)), (.ref tb), (.int (0 : Int32)), (.int (3 : Int32))] 7)) t := fun t kt => S35 t (st37 _ kt)
  have V39 := Arv.set Ar36 q36 Sz36 Nn36 Hh36 Gg36 (fits_nar_byte _) W37 2 rfl (Nat.le_of_ble_eq_true rfl)
  have F40 := F26.other W37 ne_b_tb
  have N41 := Fr.snoc X37 N27 g_tb
  have K42 : Keep h0 h37 [tb] := K28.wr W37 (Or.inl (List.mem_of_getElem? (i := 0) rfl))
  have S43 : ∀ t, Steps p.tables e below (T37.setTop (mkF m 7 #[.val (.ref b), .val (.int (3 : Int32)), .val (.ref tb), .val (.int (3 : Int32)), .val (.int (3 : Int32)), .val (.int (3 : Int32)), .val (.int c2)] [(.int (3 : Int32)), (.int (3 : Int32))])) t → Steps p.tables e below (s₁.setTop (entryFrame m #[(.ref b), (.int (0 : Int32)), (.ref tb), (.int (0 : Int32)), (.int (3 : Int32))] 7)) t := fun t kt => by
    refine S38 t ?_
    show Steps p.tables e below (T37.setTop (mkF m 32 #[.val (.ref b), .val (.int (2 : Int32)), .val (.ref tb), .val (.int (2 : Int32)), .val (.int (3 : Int32)), .val (.int (2 : Int32)), .val (.int c2)] [])) t
    refine XS.iinc X37.here hx rfl (hb hby own_d5_32) rfl (l' := #[.val (.ref b), .val (.int (3 : Int32)), .val (.ref tb), .val (.int (2 : Int32)), .val (.int (3 : Int32)), .val (.int (2 : Int32)), .val (.int c2)]) rfl ?_
    refine XS.iinc X37.here hx rfl (hb hby own_d5_35) rfl (l' := #[.val (.ref b), .val (.int (3 : Int32)), .val (.ref tb), .val (.int (3 : Int32)), .val (.int (3 : Int32)), .val (.int (2 : Int32)), .val (.int c2)]) rfl ?_
    refine XS.iinc X37.here hx rfl (hb hby own_d5_38) rfl (l' := #[.val (.ref b), .val (.int (3 : Int32)), .val (.ref tb), .val (.int (3 : Int32)), .val (.int (3 : Int32)), .val (.int (3 : Int32)), .val (.int c2)]) rfl ?_
    refine XS.goto X37.here hx rfl (pc0 := 41) (pc' := 3) rfl (hb hby own_d5_41) (by decide) (by decide) ?_
    refine XS.iload X37.here hx rfl (hb hby own_d5_3) rfl ?_
    refine XS.iload X37.here hx rfl (hb hby own_d5_5) rfl ?_
    exact kt
  have hc7_44 : ¬ ((3 : Int32) < (3 : Int32)) := by decide
  have S45 : ∀ t, Steps p.tables e below (T37.setTop (mkF m 46 #[.val (.ref b), .val (.int (3 : Int32)), .val (.ref tb), .val (.int (3 : Int32)), .val (.int (3 : Int32)), .val (.int (3 : Int32)), .val (.int c2)] [(.int (3 : Int32))])) t → Steps p.tables e below (s₁.setTop (entryFrame m #[(.ref b), (.int (0 : Int32)), (.ref tb), (.int (0 : Int32)), (.int (3 : Int32))] 7)) t := fun t kt => by
    refine S43 t ?_
    show Steps p.tables e below (T37.setTop (mkF m 7 #[.val (.ref b), .val (.int (3 : Int32)), .val (.ref tb), .val (.int (3 : Int32)), .val (.int (3 : Int32)), .val (.int (3 : Int32)), .val (.int c2)] [(.int (3 : Int32)), (.int (3 : Int32))])) t
    refine XS.icmpYes X37.here hx rfl (pc0 := 7) (pc' := 44) rfl (hb hby own_d5_7) rfl (flt hc7_44).2.1 (by decide) (by decide) ?_
    refine XS.iload X37.here hx rfl (hb hby own_d5_44) rfl ?_
    exact kt
  obtain ⟨fs, hr, hrun, hended, hW, hsame⟩ := X37.leave (v := some (.int (3 : Int32))) (fun h => by rw [Bd.returns] at h; cases h)
  refine ⟨_, _, S45 _ ?_, hrun, hended, _, _, rfl, ?_, ⟨_, rfl⟩, hW, hsame.mono (by decide) (by decide)⟩
  · show Steps p.tables e below (T37.setTop (mkF m 46 #[.val (.ref b), .val (.int (3 : Int32)), .val (.ref tb), .val (.int (3 : Int32)), .val (.int (3 : Int32)), .val (.int (3 : Int32)), .val (.int c2)] [(.int (3 : Int32))])) _
    exact own_retI X37 hx Bd.returns (hb hby own_d5_46) hr
  · show own_Q5k3 Z b tb c0 c1 c2 kb kt h0 n0 _ T37.heap _
    rw [e37]
    exact ⟨rfl, N41, K42, (by have q : Arv Z h37 tb kt .byte (3 : Int32) [(.int (nar .byte (c0.toInt8.toInt32))), (.int (nar .byte (c1.toInt8.toInt32))), (.int (nar .byte (c2.toInt8.toInt32)))] (.int (0 : Int32)) := V39; simp only [own_lolo] at q; exact q)⟩
theorem own_ef6k3 (m : MethodId) (x0 : Addr) (x1 : Int32) : entryFrame m #[(.ref x0), (.int x1)] 2 = mkF m 0 #[.val (.ref x0), .val (.int x1)] [] := by first | (simp [entryFrame, mkF, argsToLocals, Value.category]; done) | rfl
def own_Q6k3 (Z : State) (tb : Addr) (c0 : Int32) (c1 : Int32) (c2 : Int32) (kt : ClassId) (h0 : Heap) (n0 : Nat) (v : Option Value) (h : Heap) (L : List Loc) : Prop := v = some (.int (0 : Int32)) ∧ L = [] ∧ h = h0
set_option maxHeartbeats 40000000 in
theorem own_rm6k3 (l : Launch) (Z : State) (a0 : Array Value) (hw : ∀ d ∈ tables_1, d.before a0 Z = true) (ws : List Jvm.Cond) (tb : Addr) (c0 : Int32) (c1 : Int32) (c2 : Int32) (kt : ClassId) (h0 : Heap) (n0 : Nat) (Z0 : n0 ≤ h0.size) (V_t : Arv Z h0 tb kt .byte (3 : Int32) [(.int (own_lo c0)), (.int (own_lo c1)), (.int (own_lo c2))] (.int (0 : Int32))) :
    MetFree l (⟨"java/lang/StringUTF16", "coderFromArrayLen", "([BI)B"⟩ : MethodName) (head1 (Jvm.Cond.code (⟨"java/lang/StringUTF16", "coderFromArrayLen", "([BI)B"⟩ : MethodName) jdk_52_method_15_code 2 (some .byte) :: ws) ({ frames := 0, cells := 0, slots := 0, locals := 0 } : Room)) (fun argv U => argv = #[(.ref tb), (.int (3 : Int32))] ∧ Z.Warmed39 U.vm ∧ U.heap = h0) (fun _ _ _ _ _ => True) (fun _ U o U' => ∃ v L, o = .returned v ∧ own_Q6k3 Z tb c0 c1 c2 kt h0 n0 v U'.heap L ∧ FrameEnd U o U' L ({ frames := 0, cells := 0, slots := 0, locals := 0 } : Room).cells ({ frames := 0, cells := 0, slots := 0, locals := 0 } : Room).slots) := by
  refine MetFree.of_bodySF (plainFor_of_name own_pn2) hisR ?_
  intro p e s m args below meth c s₁ Bd hml0 hP hK
  obtain ⟨rfl, hZ, hh⟩ := hP
  have hx := Bd.exec
  have hby := Bd.bytes
  have hml : c.maxLocals = 2 := hml0
  have hown : s.vm.findClass "java/lang/StringUTF16" = some m.cls := findClass_of_methodNamed Bd.named
  have hnm := (name_of_methodNamed Bd.named Bd.method).1
  have X0 : Stand p l e ({ frames := 0, cells := 0, slots := 0, locals := 0 } : Room) s m #[(.ref tb), (.int (3 : Int32))] below meth c s₁ [] 0 0 := Stand.of_body Bd
  have e0 : s₁.heap = h0 := by rw [← hh, Bd.state]; rfl
  have N0 := Fr.nil n0
  have pre0 : ∀ t, Steps p.tables e below (s₁.setTop (mkF m 0 #[.val (.ref tb), .val (.int (3 : Int32))] [])) t → Steps p.tables e below (s₁.setTop (entryFrame m #[(.ref tb), (.int (3 : Int32))] 2)) t := fun t k => castTop (own_ef6k3 m tb (3 : Int32)) k
  have S1 : ∀ t, Steps p.tables e below (s₁.setTop (mkF m 2 #[.val (.ref tb), .val (.int (3 : Int32))] [(.ref tb), (.int (3 : Int32))])) t → Steps p.tables e below (s₁.setTop (entryFrame m #[(.ref tb), (.int (3 : Int32))] 2)) t := fun t kt => by
    refine pre0 t ?_
    show Steps p.tables e below (s₁.setTop (mkF m 0 #[.val (.ref tb), .val (.int (3 : Int32))] [])) t
    refine XS.iloadN X0.here hx rfl (hb hby own_d6_0) rfl ?_
    refine XS.aloadN X0.here hx rfl (hb hby own_d6_1) rfl rfl ?_
    exact kt
  obtain ⟨cl2, Ar2, -, Sz2, Nn2, -, -⟩ := id V_t
  have S3 : ∀ t, Steps p.tables e below (s₁.setTop (mkF m 8 #[.val (.ref tb), .val (.int (3 : Int32))] [(.int ((((0 : Int32).toUInt32 >>> ((31 : Int32) &&& 31).toUInt32).toInt32).toInt8.toInt32))])) t → Steps p.tables e below (s₁.setTop (entryFrame m #[(.ref tb), (.int (3 : Int32))] 2)) t := fun t kt => by
    refine S1 t ?_
    show Steps p.tables e below (s₁.setTop (mkF m 2 #[.val (.ref tb), .val (.int (3 : Int32))] [(.ref tb), (.int (3 : Int32))])) t
    refine X0.arraylength hx (by rw [e0]; exact Ar2.1) (State.isArrayOf_alike hZ.alike Ar2.2.1) (g := (mkF m 2 #[.val (.ref tb), .val (.int (3 : Int32))] [(.ref tb), (.int (3 : Int32))])) rfl rfl (hb hby own_d6_2) _ ?_
    rw [len_of Sz2 Nn2]
    show Steps p.tables e below (s₁.setTop (mkF m 3 #[.val (.ref tb), .val (.int (3 : Int32))] [(.int (3 : Int32)), (.int (3 : Int32))])) t
    refine XS.isub X0.here hx rfl (hb hby own_d6_3) rfl ?_
    refine XS.bipush X0.here hx rfl (hb hby own_d6_4) ?_
    refine XS.iushr X0.here hx rfl (hb hby own_d6_6) rfl ?_
    refine XS.i2b X0.here hx rfl (hb hby own_d6_7) rfl ?_
    exact kt
  obtain ⟨fs, hr, hrun, hended, hW, hsame⟩ := X0.leave (v := some (.int (nar .byte ((((0 : Int32).toUInt32 >>> ((31 : Int32) &&& 31).toUInt32).toInt32).toInt8.toInt32)))) (fun h => by rw [Bd.returns] at h; cases h)
  refine ⟨_, _, S3 _ ?_, hrun, hended, _, _, rfl, ?_, ⟨_, rfl⟩, hW, hsame.mono (by decide) (by decide)⟩
  · show Steps p.tables e below (s₁.setTop (mkF m 8 #[.val (.ref tb), .val (.int (3 : Int32))] [(.int ((((0 : Int32).toUInt32 >>> ((31 : Int32) &&& 31).toUInt32).toInt32).toInt8.toInt32))])) _
    exact retN X0 hx (t := .byte) Bd.returns (by simp) (hb hby own_d6_8) hr
  · show own_Q6k3 Z tb c0 c1 c2 kt h0 n0 _ s₁.heap _
    rw [e0]
    exact ⟨rfl, rfl, rfl⟩
theorem own_ef4k3 (m : MethodId) (x0 : Addr) (x1 : Int32) (x2 : Int32) : entryFrame m #[(.ref x0), (.int x1), (.int x2)] 6 = mkF m 0 #[.val (.ref x0), .val (.int x1), .val (.int x2), .unset, .unset, .unset] [] := by first | (simp [entryFrame, mkF, argsToLocals, Value.category]; done) | rfl
def own_Q4k3 (Z : State) (b : Addr) (c0 : Int32) (c1 : Int32) (c2 : Int32) (kb : ClassId) (h0 : Heap) (n0 : Nat) (v : Option Value) (h : Heap) (L : List Loc) : Prop := ∃ (tb : Addr) (kt : ClassId), v = some (.ref tb) ∧ Fr n0 L ∧ n0 ≤ tb ∧ h0.size ≤ tb ∧ Keep h0 h [] ∧ Arv Z h tb kt .byte (3 : Int32) [(.int (own_lo c0)), (.int (own_lo c1)), (.int (own_lo c2))] (.int (0 : Int32))
set_option maxHeartbeats 40000000 in
theorem own_rm4k3 (l : Launch) (Z : State) (a0 : Array Value) (hw : ∀ d ∈ tables_1, d.before a0 Z = true) (ws : List Jvm.Cond) (b : Addr) (c0 : Int32) (c1 : Int32) (c2 : Int32) (kb : ClassId) (h0 : Heap) (n0 : Nat) (Z0 : n0 ≤ h0.size) (V_b : Arv Z h0 b kb .char (3 : Int32) [(.int c0), (.int c1), (.int c2)] (.int (0 : Int32))) (hl0 : ¬ (255 : Int32) < c0) (hl1 : ¬ (255 : Int32) < c1) (hl2 : ¬ (255 : Int32) < c2) :
    MetFree l (⟨"java/lang/StringUTF16", "compress", "([CII)[B"⟩ : MethodName) (head1 (Jvm.Cond.code (⟨"java/lang/StringUTF16", "compress", "([CII)[B"⟩ : MethodName) jdk_52_method_16_code 6 (some (.array .byte)) :: ws) ({ frames := 1, cells := 1, slots := 3, locals := 18 } : Room)) (fun argv U => argv = #[(.ref b), (.int (0 : Int32)), (.int (3 : Int32))] ∧ Z.Warmed39 U.vm ∧ U.heap = h0) (fun _ _ _ _ _ => True) (fun _ U o U' => ∃ v L, o = .returned v ∧ own_Q4k3 Z b c0 c1 c2 kb h0 n0 v U'.heap L ∧ FrameEnd U o U' L ({ frames := 1, cells := 1, slots := 3, locals := 18 } : Room).cells ({ frames := 1, cells := 1, slots := 3, locals := 18 } : Room).slots) := by
  refine MetFree.of_bodySF (plainFor_of_name own_pn2) hisR ?_
  intro p e s m args below meth c s₁ Bd hml0 hP hK
  obtain ⟨rfl, hZ, hh⟩ := hP
  have hx := Bd.exec
  have hby := Bd.bytes
  have hml : c.maxLocals = 6 := hml0
  have hown : s.vm.findClass "java/lang/StringUTF16" = some m.cls := findClass_of_methodNamed Bd.named
  have hnm := (name_of_methodNamed Bd.named Bd.method).1
  have X0 : Stand p l e ({ frames := 1, cells := 1, slots := 3, locals := 18 } : Room) s m #[(.ref b), (.int (0 : Int32)), (.int (3 : Int32))] below meth c s₁ [] 0 0 := Stand.of_body Bd
  have e0 : s₁.heap = h0 := by rw [← hh, Bd.state]; rfl
  have N0 := Fr.nil n0
  have pre0 : ∀ t, Steps p.tables e below (s₁.setTop (mkF m 0 #[.val (.ref b), .val (.int (0 : Int32)), .val (.int (3 : Int32)), .unset, .unset, .unset] [])) t → Steps p.tables e below (s₁.setTop (entryFrame m #[(.ref b), (.int (0 : Int32)), (.int (3 : Int32))] 6)) t := fun t k => castTop (own_ef4k3 m b (0 : Int32) (3 : Int32)) k
  have S1 : ∀ t, Steps p.tables e below (s₁.setTop (mkF m 1 #[.val (.ref b), .val (.int (0 : Int32)), .val (.int (3 : Int32)), .unset, .unset, .unset] [(.int (3 : Int32))])) t → Steps p.tables e below (s₁.setTop (entryFrame m #[(.ref b), (.int (0 : Int32)), (.int (3 : Int32))] 6)) t := fun t kt => by
    refine pre0 t ?_
    show Steps p.tables e below (s₁.setTop (mkF m 0 #[.val (.ref b), .val (.int (0 : Int32)), .val (.int (3 : Int32)), .unset, .unset, .unset] [])) t
    refine XS.iloadN X0.here hx rfl (hb hby own_d4_0) rfl ?_
    exact kt
  obtain ⟨T2, h2, k2, X2, e2, E2, A2, st2⟩ := newP X0 hx hZ (hw _ (List.mem_of_getElem? (i := 19) rfl)) e0 (g := (mkF m 1 #[.val (.ref b), .val (.int (0 : Int32)), .val (.int (3 : Int32)), .unset, .unset, .unset] [(.int (3 : Int32))])) rfl (hb hby own_d4_1) rfl (by decide) (cap := 3) (by decide) (by decide) (by decide) (by decide)
  obtain ⟨b2, g2⟩ : ∃ z, z = h0.size := ⟨_, rfl⟩
  rw [← g2] at A2 st2
  have S3 : ∀ t, Steps p.tables e below (T2.setTop (mkF m 3 #[.val (.ref b), .val (.int (0 : Int32)), .val (.int (3 : Int32)), .unset, .unset, .unset] [(.ref b2)])) t → Steps p.tables e below (s₁.setTop (entryFrame m #[(.ref b), (.int (0 : Int32)), (.int (3 : Int32))] 6)) t := fun t kt => S1 t (st2 _ kt)
  have g_b2 : n0 ≤ b2 := Nat.le_trans Z0 (Nat.le_of_eq g2.symm)
  have sz_b2 : h0.size ≤ b2 := Nat.le_trans (Keep.refl h0 []).1 (Nat.le_of_eq g2.symm)
  have ne_b_b2 : b ≠ b2 := Nat.ne_of_lt (Nat.lt_of_lt_of_le V_b.lt (Nat.le_of_eq g2.symm))
  have F4 := V_b.ext E2
  have K5 : Keep h0 h2 [] := (Keep.refl h0 []).ext E2
  have V6 : Arv Z h2 b2 k2 .byte (3 : Int32) [(.int (0 : Int32)), (.int (0 : Int32)), (.int (0 : Int32))] (.int (0 : Int32)) := (Arv.new A2 (by decide)).pad (pad_rep [] (.int (0 : Int32)) 3)
  have S9 : ∀ t, Steps p.tables e below (T2.setTop (mkF m 9 #[.val (.ref b), .val (.int (0 : Int32)), .val (.int (3 : Int32)), .val (.ref b2), .unset, .unset] [(.int (3 : Int32)), (.int (0 : Int32)), (.ref b2), (.int (0 : Int32)), (.ref b)])) t → Steps p.tables e below (s₁.setTop (entryFrame m #[(.ref b), (.int (0 : Int32)), (.int (3 : Int32))] 6)) t := fun t kt => by
    refine S3 t ?_
    show Steps p.tables e below (T2.setTop (mkF m 3 #[.val (.ref b), .val (.int (0 : Int32)), .val (.int (3 : Int32)), .unset, .unset, .unset] [(.ref b2)])) t
    refine XS.astoreN X2.here hx rfl (hb hby own_d4_3) rfl rfl (l' := #[.val (.ref b), .val (.int (0 : Int32)), .val (.int (3 : Int32)), .val (.ref b2), .unset, .unset]) rfl ?_
    refine XS.aloadN X2.here hx rfl (hb hby own_d4_4) rfl rfl ?_
    refine XS.iloadN X2.here hx rfl (hb hby own_d4_5) rfl ?_
    refine XS.aloadN X2.here hx rfl (hb hby own_d4_6) rfl rfl ?_
    refine XS.iconst X2.here hx rfl (hb hby own_d4_7) ?_
    refine XS.iloadN X2.here hx rfl (hb hby own_d4_8) rfl ?_
    exact kt
  obtain ⟨_, _, ⟨T10, L10, k10, n10⟩, -, X10, ⟨Lc10, hQ10, l10, y10, z10⟩, st10⟩ := Jvm.LawKit.callS X2 hx (y := (⟨"java/lang/StringUTF16", "compress", "([CI[BII)I"⟩ : MethodName)) hown (mvT hZ (hw _ (List.mem_of_getElem? (i := 20) rfl))) (mvT hZ (hw _ (List.mem_of_getElem? (i := 21) rfl))) (mvT hZ (hw _ (List.mem_of_getElem? (i := 17) rfl))) (mvT hZ (hw _ (List.mem_of_getElem? (i := 22) rfl))) (by decide) (backOf (W := 0) (own_rm5k3 l Z a0 hw [] (b) (b2) (c0) (c1) (c2) (kb) (k2) h2 n0 (Nat.le_trans Z0 K5.1) F4 V6 g_b2 ne_b_b2 hl0 hl1 hl2) hZ (hw _ (List.mem_of_getElem? (i := 22) rfl)) (hw _ (List.mem_of_getElem? (i := 17) rfl)) (by decide) (by decide)) (g := (mkF m 9 #[.val (.ref b), .val (.int (0 : Int32)), .val (.int (3 : Int32)), .val (.ref b2), .unset, .unset] [(.int (3 : Int32)), (.int (0 : Int32)), (.ref b2), (.int (0 : Int32)), (.ref b)])) rfl (by rw [hml]; rfl) (argsL := [(.ref b), (.int (0 : Int32)), (.ref b2), (.int (0 : Int32)), (.int (3 : Int32))]) (rest := []) (lenOf own_pd1 rfl) rfl (by show 2 * 0 + _ ≤ _; exact Nat.le_of_eq rfl) (hb hby own_d4_9) (fun _ _ => ⟨rfl, e2, (by decide : 1 + 0 ≤ _), (by decide : 3 + 0 ≤ _)⟩)
  dsimp only [Pt.U, Pt.locs, Pt.cells, Pt.slots] at X10 l10 y10 z10 st10 hQ10
  subst l10 y10 z10
  obtain ⟨rfl, Nq10, Kc7, Vc7⟩ := hQ10
  have N11 := Fr.app N0 Nq10
  have S12 : ∀ t, Steps p.tables e below (T10.setTop (mkF m 12 #[.val (.ref b), .val (.int (0 : Int32)), .val (.int (3 : Int32)), .val (.ref b2), .unset, .unset] [(.int (3 : Int32))])) t → Steps p.tables e below (s₁.setTop (entryFrame m #[(.ref b), (.int (0 : Int32)), (.int (3 : Int32))] 6)) t := fun t kt => S9 t (st10 _ kt)
  have F13 := F4.keep Kc7 (ninS ne_b_b2 nin0)
  have K14 : Keep h0 T10.heap [] := K5.trans Kc7 (allS (Or.inr sz_b2) all0)
  have S15 : ∀ t, Steps p.tables e below (T10.setTop (mkF m 17 #[.val (.ref b), .val (.int (0 : Int32)), .val (.int (3 : Int32)), .val (.ref b2), .val (.int (3 : Int32)), .unset] [(.int (3 : Int32)), (.int (3 : Int32))])) t → Steps p.tables e below (s₁.setTop (entryFrame m #[(.ref b), (.int (0 : Int32)), (.int (3 : Int32))] 6)) t := fun t kt => by
    refine S12 t ?_
    show Steps p.tables e below (T10.setTop (mkF m 12 #[.val (.ref b), .val (.int (0 : Int32)), .val (.int (3 : Int32)), .val (.ref b2), .unset, .unset] [(.int (3 : Int32))])) t
    refine XS.istore X10.here hx rfl (hb hby own_d4_12) rfl (l' := #[.val (.ref b), .val (.int (0 : Int32)), .val (.int (3 : Int32)), .val (.ref b2), .val (.int (3 : Int32)), .unset]) rfl ?_
    refine XS.iload X10.here hx rfl (hb hby own_d4_14) rfl ?_
    refine XS.iloadN X10.here hx rfl (hb hby own_d4_16) rfl ?_
    exact kt
  have hc17_16 : (3 : Int32) = (3 : Int32) := by decide
  have S17 : ∀ t, Steps p.tables e below (T10.setTop (mkF m 58 #[.val (.ref b), .val (.int (0 : Int32)), .val (.int (3 : Int32)), .val (.ref b2), .val (.int (3 : Int32)), .unset] [(.ref b2)])) t → Steps p.tables e below (s₁.setTop (entryFrame m #[(.ref b), (.int (0 : Int32)), (.int (3 : Int32))] 6)) t := fun t kt => by
    refine S15 t ?_
    show Steps p.tables e below (T10.setTop (mkF m 17 #[.val (.ref b), .val (.int (0 : Int32)), .val (.int (3 : Int32)), .val (.ref b2), .val (.int (3 : Int32)), .unset] [(.int (3 : Int32)), (.int (3 : Int32))])) t
    refine XS.icmpYes X10.here hx rfl (pc0 := 17) (pc' := 57) rfl (hb hby own_d4_17) rfl (teq hc17_16).1 (by decide) (by decide) ?_
    refine XS.aloadN X10.here hx rfl (hb hby own_d4_57) rfl rfl ?_
    exact kt
  obtain ⟨fs, hr, hrun, hended, hW, hsame⟩ := X10.leave (v := some (.ref b2)) (fun h => by rw [Bd.returns] at h; cases h)
  refine ⟨_, _, S17 _ ?_, hrun, hended, _, _, rfl, ?_, ⟨_, rfl⟩, hW, hsame.mono (by decide) (by decide)⟩
  · show Steps p.tables e below (T10.setTop (mkF m 58 #[.val (.ref b), .val (.int (0 : Int32)), .val (.int (3 : Int32)), .val (.ref b2), .val (.int (3 : Int32)), .unset] [(.ref b2)])) _
    jvm_step X10.here [X10.here.top, hx, (hb hby own_d4_58), X10.method', Bd.returns, Value.isRef, FieldType.isReference]
    first | (intro acts; rw [hr _ acts rfl rfl rfl]) | rw [hr _ _ rfl rfl rfl]
    exact Steps.refl _
  · show own_Q4k3 Z b c0 c1 c2 kb h0 n0 _ T10.heap _
    exact ⟨b2, k2, rfl, N11, g_b2, sz_b2, K14, Vc7⟩
theorem own_ef2k3 (m : MethodId) (x0 : Addr) (x1 : Addr) (x2 : Int32) (x3 : Int32) : entryFrame m #[(.ref x0), (.ref x1), (.int x2), (.int x3), .null] 6 = mkF m 0 #[.val (.ref x0), .val (.ref x1), .val (.int x2), .val (.int x3), .val .null, .unset] [] := by first | (simp [entryFrame, mkF, argsToLocals, Value.category]; done) | rfl
def own_Q2k3 (Z : State) (a : Addr) (b : Addr) (c0 : Int32) (c1 : Int32) (c2 : Int32) (kb : ClassId) (cs : Int32) (uv : Value) (uc : Value) (h0 : Heap) (n0 : Nat) (v : Option Value) (h : Heap) (L : List Loc) : Prop := v = none ∧ Fr n0 L ∧ Keep h0 h [a] ∧ Exa Z h a "java/lang/String" ∧ Fld Z h a "java/lang/String" "coder" "B" (.int (0 : Int32)) ∧ ∃ (tb : Addr) (kt : ClassId), n0 ≤ tb ∧ h0.size ≤ tb ∧ a ≠ tb ∧ Fld Z h a "java/lang/String" "value" "[B" (.ref tb) ∧ Arv Z h tb kt .byte (3 : Int32) [(.int (own_lo c0)), (.int (own_lo c1)), (.int (own_lo c2))] (.int (0 : Int32))
set_option maxHeartbeats 40000000 in
theorem own_rm2k3 (l : Launch) (Z : State) (a0 : Array Value) (hw : ∀ d ∈ tables_1, d.before a0 Z = true) (ws : List Jvm.Cond) (a : Addr) (b : Addr) (c0 : Int32) (c1 : Int32) (c2 : Int32) (kb : ClassId) (cs : Int32) (uv : Value) (uc : Value) (h0 : Heap) (n0 : Nat) (Z0 : n0 ≤ h0.size) (E_a : Exa Z h0 a "java/lang/String") (g_a : n0 ≤ a) (F_value : Fld Z h0 a "java/lang/String" "value" "[B" uv) (F_coder : Fld Z h0 a "java/lang/String" "coder" "B" uc) (S_CS : Sta Z h0 "java/lang/String" "COMPACT_STRINGS" "Z" (.int cs)) (hcs : ¬ cs = (0 : Int32)) (V_b : Arv Z h0 b kb .char (3 : Int32) [(.int c0), (.int c1), (.int c2)] (.int (0 : Int32))) (hl0 : ¬ (255 : Int32) < c0) (hl1 : ¬ (255 : Int32) < c1) (hl2 : ¬ (255 : Int32) < c2) :
    MetFree l (⟨"java/lang/String", "<init>", "([CIILjava/lang/Void;)V"⟩ : MethodName) (head1 (Jvm.Cond.code (⟨"java/lang/String", "<init>", "([CIILjava/lang/Void;)V"⟩ : MethodName) jdk_42_method_149_code 6 none :: ws) ({ frames := 2, cells := 1, slots := 3, locals := 35 } : Room)) (fun argv U => argv = #[(.ref a), (.ref b), (.int (0 : Int32)), (.int (3 : Int32)), .null] ∧ Z.Warmed39 U.vm ∧ U.heap = h0) (fun _ _ _ _ _ => True) (fun _ U o U' => ∃ v L, o = .returned v ∧ own_Q2k3 Z a b c0 c1 c2 kb cs uv uc h0 n0 v U'.heap L ∧ FrameEnd U o U' L ({ frames := 2, cells := 1, slots := 3, locals := 35 } : Room).cells ({ frames := 2, cells := 1, slots := 3, locals := 35 } : Room).slots) := by
  refine MetFree.of_bodySF (plainFor_of_name own_pn3) hisR ?_
  intro p e s m args below meth c s₁ Bd hml0 hP hK
  obtain ⟨rfl, hZ, hh⟩ := hP
  have hx := Bd.exec
  have hby := Bd.bytes
  have hml : c.maxLocals = 6 := hml0
  have hown : s.vm.findClass "java/lang/String" = some m.cls := findClass_of_methodNamed Bd.named
  have hnm := (name_of_methodNamed Bd.named Bd.method).1
  have X0 : Stand p l e ({ frames := 2, cells := 1, slots := 3, locals := 35 } : Room) s m #[(.ref a), (.ref b), (.int (0 : Int32)), (.int (3 : Int32)), .null] below meth c s₁ [] 0 0 := Stand.of_body Bd
  have e0 : s₁.heap = h0 := by rw [← hh, Bd.state]; rfl
  have N0 := Fr.nil n0
  have pre0 : ∀ t, Steps p.tables e below (s₁.setTop (mkF m 0 #[.val (.ref a), .val (.ref b), .val (.int (0 : Int32)), .val (.int (3 : Int32)), .val .null, .unset] [])) t → Steps p.tables e below (s₁.setTop (entryFrame m #[(.ref a), (.ref b), (.int (0 : Int32)), (.int (3 : Int32)), .null] 6)) t := fun t k => castTop (own_ef2k3 m a b (0 : Int32) (3 : Int32)) k
  have S1 : ∀ t, Steps p.tables e below (s₁.setTop (mkF m 1 #[.val (.ref a), .val (.ref b), .val (.int (0 : Int32)), .val (.int (3 : Int32)), .val .null, .unset] [(.ref a)])) t → Steps p.tables e below (s₁.setTop (entryFrame m #[(.ref a), (.ref b), (.int (0 : Int32)), (.int (3 : Int32)), .null] 6)) t := fun t kt => by
    refine pre0 t ?_
    show Steps p.tables e below (s₁.setTop (mkF m 0 #[.val (.ref a), .val (.ref b), .val (.int (0 : Int32)), .val (.int (3 : Int32)), .val .null, .unset] [])) t
    refine XS.aloadN X0.here hx rfl (hb hby own_d2_0) rfl rfl ?_
    exact kt
  obtain ⟨T2, X2, e2, st2⟩ := initO X0 hx hZ hown (hw _ (List.mem_of_getElem? (i := 11) rfl)) (hw _ (List.mem_of_getElem? (i := 12) rfl)) (hw _ (List.mem_of_getElem? (i := 13) rfl)) e0 (g := (mkF m 1 #[.val (.ref a), .val (.ref b), .val (.int (0 : Int32)), .val (.int (3 : Int32)), .val .null, .unset] [(.ref a)])) rfl (by rw [hml]; rfl) rfl (hb hby own_d2_1) (by decide) (W := 0) (by show 2 * 0 + _ ≤ _; exact Nat.le_of_eq rfl) (by decide)
  have S3 : ∀ t, Steps p.tables e below (T2.setTop (mkF m 4 #[.val (.ref a), .val (.ref b), .val (.int (0 : Int32)), .val (.int (3 : Int32)), .val .null, .unset] [])) t → Steps p.tables e below (s₁.setTop (entryFrame m #[(.ref a), (.ref b), (.int (0 : Int32)), (.int (3 : Int32)), .null] 6)) t := fun t kt => S1 t (st2 _ kt)
  have S4 : ∀ t, Steps p.tables e below (T2.setTop (mkF m 5 #[.val (.ref a), .val (.ref b), .val (.int (0 : Int32)), .val (.int (3 : Int32)), .val .null, .unset] [(.int (3 : Int32))])) t → Steps p.tables e below (s₁.setTop (entryFrame m #[(.ref a), (.ref b), (.int (0 : Int32)), (.int (3 : Int32)), .null] 6)) t := fun t kt => by
    refine S3 t ?_
    show Steps p.tables e below (T2.setTop (mkF m 4 #[.val (.ref a), .val (.ref b), .val (.int (0 : Int32)), .val (.int (3 : Int32)), .val .null, .unset] [])) t
    refine XS.iloadN X2.here hx rfl (hb hby own_d2_4) rfl ?_
    exact kt
  have hc5_5 : ¬ ((3 : Int32) = (0 : Int32)) := by decide
  have S6 : ∀ t, Steps p.tables e below (T2.setTop (mkF m 27 #[.val (.ref a), .val (.ref b), .val (.int (0 : Int32)), .val (.int (3 : Int32)), .val .null, .unset] [])) t → Steps p.tables e below (s₁.setTop (entryFrame m #[(.ref a), (.ref b), (.int (0 : Int32)), (.int (3 : Int32)), .null] 6)) t := fun t kt => by
    refine S4 t ?_
    show Steps p.tables e below (T2.setTop (mkF m 5 #[.val (.ref a), .val (.ref b), .val (.int (0 : Int32)), .val (.int (3 : Int32)), .val .null, .unset] [(.int (3 : Int32))])) t
    refine XS.ifYes X2.here hx rfl (pc0 := 5) (pc' := 27) rfl (hb hby own_d2_5) rfl ((if0 _ _).trans (feq hc5_5).2) (by decide) (by decide) ?_
    exact kt
  obtain ⟨T7, X7, e7, st7⟩ := getS2 X2 hx hZ hown (host := "") (Or.inl (hw _ (List.mem_of_getElem? (i := 14) rfl))) Via.refl e2 S_CS (g := (mkF m 27 #[.val (.ref a), .val (.ref b), .val (.int (0 : Int32)), .val (.int (3 : Int32)), .val .null, .unset] [])) rfl (hb hby own_d2_27)
  have S8 : ∀ t, Steps p.tables e below (T7.setTop (mkF m 30 #[.val (.ref a), .val (.ref b), .val (.int (0 : Int32)), .val (.int (3 : Int32)), .val .null, .unset] [(.int cs)])) t → Steps p.tables e below (s₁.setTop (entryFrame m #[(.ref a), (.ref b), (.int (0 : Int32)), (.int (3 : Int32)), .null] 6)) t := fun t kt => S6 t (st7 _ kt)
  have hc30_9 : ¬ (cs = (0 : Int32)) := hcs
  have S12 : ∀ t, Steps p.tables e below (T7.setTop (mkF m 36 #[.val (.ref a), .val (.ref b), .val (.int (0 : Int32)), .val (.int (3 : Int32)), .val .null, .unset] [(.int (3 : Int32)), (.int (0 : Int32)), (.ref b)])) t → Steps p.tables e below (s₁.setTop (entryFrame m #[(.ref a), (.ref b), (.int (0 : Int32)), (.int (3 : Int32)), .null] 6)) t := fun t kt => by
    refine S8 t ?_
    show Steps p.tables e below (T7.setTop (mkF m 30 #[.val (.ref a), .val (.ref b), .val (.int (0 : Int32)), .val (.int (3 : Int32)), .val .null, .unset] [(.int cs)])) t
    refine XS.ifNo X7.here hx rfl (hb hby own_d2_30) rfl ((if0 _ _).trans (feq hc30_9).1) ?_
    refine XS.aloadN X7.here hx rfl (hb hby own_d2_33) rfl rfl ?_
    refine XS.iloadN X7.here hx rfl (hb hby own_d2_34) rfl ?_
    refine XS.iloadN X7.here hx rfl (hb hby own_d2_35) rfl ?_
    exact kt
  obtain ⟨_, _, ⟨T13, L13, k13, n13⟩, -, X13, ⟨Lc13, hQ13, l13, y13, z13⟩, st13⟩ := Jvm.LawKit.callS X7 hx (y := (⟨"java/lang/StringUTF16", "compress", "([CII)[B"⟩ : MethodName)) hown (mvT hZ (hw _ (List.mem_of_getElem? (i := 15) rfl))) (mvT hZ (hw _ (List.mem_of_getElem? (i := 16) rfl))) (mvT hZ (hw _ (List.mem_of_getElem? (i := 17) rfl))) (mvT hZ (hw _ (List.mem_of_getElem? (i := 18) rfl))) (by decide) (backOf (W := 0) (own_rm4k3 l Z a0 hw [] (b) (c0) (c1) (c2) (kb) h0 n0 Z0 V_b hl0 hl1 hl2) hZ (hw _ (List.mem_of_getElem? (i := 18) rfl)) (hw _ (List.mem_of_getElem? (i := 17) rfl)) (by decide) (by decide)) (g := (mkF m 36 #[.val (.ref a), .val (.ref b), .val (.int (0 : Int32)), .val (.int (3 : Int32)), .val .null, .unset] [(.int (3 : Int32)), (.int (0 : Int32)), (.ref b)])) rfl (by rw [hml]; rfl) (argsL := [(.ref b), (.int (0 : Int32)), (.int (3 : Int32))]) (rest := []) (lenOf own_pd2 rfl) rfl (by show 2 * 0 + _ ≤ _; exact Nat.le_of_eq rfl) (hb hby own_d2_36) (fun _ _ => ⟨rfl, e7, (by decide : 0 + 1 ≤ _), (by decide : 0 + 3 ≤ _)⟩)
  dsimp only [Pt.U, Pt.locs, Pt.cells, Pt.slots] at X13 l13 y13 z13 st13 hQ13
  subst l13 y13 z13
  obtain ⟨tb10, kt10, rfl, Nq13, gt10, sz10, Kc10, Vc10⟩ := hQ13
  have N14 := Fr.app N0 Nq13
  have S15 : ∀ t, Steps p.tables e below (T13.setTop (mkF m 39 #[.val (.ref a), .val (.ref b), .val (.int (0 : Int32)), .val (.int (3 : Int32)), .val .null, .unset] [(.ref tb10)])) t → Steps p.tables e below (s₁.setTop (entryFrame m #[(.ref a), (.ref b), (.int (0 : Int32)), (.int (3 : Int32)), .null] 6)) t := fun t kt => S12 t (st13 _ kt)
  have F16 := E_a.keep Kc10
  have F17 := F_value.keep Kc10 nin0
  have F18 := F_coder.keep Kc10 nin0
  have F19 := own_StaK S_CS Kc10 all0
  have F20 := V_b.keep Kc10 nin0
  have K21 : Keep h0 T13.heap [a] := (Keep.refl h0 [a]).trans Kc10 all0
  have ne_a_tb10 : a ≠ tb10 := Nat.ne_of_lt (Nat.lt_of_lt_of_le E_a.lt sz10)
  have ne_b_tb10 : b ≠ tb10 := Nat.ne_of_lt (Nat.lt_of_lt_of_le V_b.lt sz10)
  have S23 : ∀ t, Steps p.tables e below (T13.setTop (mkF m 45 #[.val (.ref a), .val (.ref b), .val (.int (0 : Int32)), .val (.int (3 : Int32)), .val .null, .val (.ref tb10)] [(.int (3 : Int32)), (.ref tb10), (.ref a)])) t → Steps p.tables e below (s₁.setTop (entryFrame m #[(.ref a), (.ref b), (.int (0 : Int32)), (.int (3 : Int32)), .null] 6)) t := fun t kt => by
    refine S15 t ?_
    show Steps p.tables e below (T13.setTop (mkF m 39 #[.val (.ref a), .val (.ref b), .val (.int (0 : Int32)), .val (.int (3 : Int32)), .val .null, .unset] [(.ref tb10)])) t
    refine XS.astore X13.here hx rfl (hb hby own_d2_39) rfl rfl (l' := #[.val (.ref a), .val (.ref b), .val (.int (0 : Int32)), .val (.int (3 : Int32)), .val .null, .val (.ref tb10)]) rfl ?_
    refine XS.aloadN X13.here hx rfl (hb hby own_d2_41) rfl rfl ?_
    refine XS.aload X13.here hx rfl (hb hby own_d2_42) rfl rfl ?_
    refine XS.iloadN X13.here hx rfl (hb hby own_d2_44) rfl ?_
    exact kt
  obtain ⟨_, _, ⟨T24, L24, k24, n24⟩, -, X24, ⟨Lc24, hQ24, l24, y24, z24⟩, st24⟩ := Jvm.LawKit.callS X13 hx (y := (⟨"java/lang/StringUTF16", "coderFromArrayLen", "([BI)B"⟩ : MethodName)) hown (mvT hZ (hw _ (List.mem_of_getElem? (i := 23) rfl))) (mvT hZ (hw _ (List.mem_of_getElem? (i := 24) rfl))) (mvT hZ (hw _ (List.mem_of_getElem? (i := 17) rfl))) (mvT hZ (hw _ (List.mem_of_getElem? (i := 25) rfl))) (by decide) (backOf (W := 1) (own_rm6k3 l Z a0 hw [] (tb10) (c0) (c1) (c2) (kt10) T13.heap n0 (Nat.le_trans Z0 K21.1) Vc10) hZ (hw _ (List.mem_of_getElem? (i := 25) rfl)) (hw _ (List.mem_of_getElem? (i := 17) rfl)) (by decide) (by decide)) (g := (mkF m 45 #[.val (.ref a), .val (.ref b), .val (.int (0 : Int32)), .val (.int (3 : Int32)), .val .null, .val (.ref tb10)] [(.int (3 : Int32)), (.ref tb10), (.ref a)])) rfl (by rw [hml]; rfl) (argsL := [(.ref tb10), (.int (3 : Int32))]) (rest := [(.ref a)]) (lenOf own_pd3 rfl) rfl (by show 2 * 0 + _ ≤ _; exact Nat.le_of_eq rfl) (hb hby own_d2_45) (fun _ _ => ⟨rfl, rfl, (by decide : 1 + 0 ≤ _), (by decide : 3 + 0 ≤ _)⟩)
  dsimp only [Pt.U, Pt.locs, Pt.cells, Pt.slots] at X24 l24 y24 z24 st24 hQ24
  subst l24 y24 z24
  obtain ⟨rfl, rfl, eq22⟩ := hQ24
  try rw [List.append_nil] at X24
  have S25 : ∀ t, Steps p.tables e below (T24.setTop (mkF m 48 #[.val (.ref a), .val (.ref b), .val (.int (0 : Int32)), .val (.int (3 : Int32)), .val .null, .val (.ref tb10)] [(.int (0 : Int32)), (.ref a)])) t → Steps p.tables e below (s₁.setTop (entryFrame m #[(.ref a), (.ref b), (.int (0 : Int32)), (.int (3 : Int32)), .null] 6)) t := fun t kt => S23 t (st24 _ kt)
  obtain ⟨T26, h26, X26, e26, W26, st26⟩ := putFN X24 hx hZ hown (hw _ (List.mem_of_getElem? (i := 26) rfl)) Via.refl (eq22.trans rfl) F18 F16 (Or.inr ⟨(hw _ (List.mem_of_getElem? (i := 27) rfl)), rfl, hnm⟩) (hw _ (List.mem_of_getElem? (i := 1) rfl)) (ty := .byte) (v' := (.int (0 : Int32))) (by decide) rfl (by decide) (g := (mkF m 48 #[.val (.ref a), .val (.ref b), .val (.int (0 : Int32)), .val (.int (3 : Int32)), .val .null, .val (.ref tb10)] [(.int (0 : Int32)), (.ref a)])) rfl rfl (hb hby own_d2_48)
  have S27 : ∀ t, Steps p.tables e below (T26.setTop (mkF m 51 #[.val (.ref a), .val (.ref b), .val (.int (0 : Int32)), .val (.int (3 : Int32)), .val .null, .val (.ref tb10)] [])) t → Steps p.tables e below (s₁.setTop (entryFrame m #[(.ref a), (.ref b), (.int (0 : Int32)), (.int (3 : Int32)), .null] 6)) t := fun t kt => S25 t (st26 _ kt)
  have F28 := F16.wr W26
  have F29 := F17.other W26 (Or.inr (slot_ne (Or.inr (hw _ (List.mem_of_getElem? (i := 29) rfl))) (Or.inr (hw _ (List.mem_of_getElem? (i := 27) rfl))) (by decide) (t := (.array .byte)) (t' := .byte) (by decide) (by decide)))
  have F30 := F18.same W26
  have F31 := F19.wr W26
  have F32 := F20.other W26 (Ne.symm (Exa.neArv F16 F20 (hw _ (List.mem_of_getElem? (i := 1) rfl))))
  have F33 := Vc10.other W26 (Ne.symm ne_a_tb10)
  have N34 := Fr.snoc X26 N14 g_a
  have K35 : Keep h0 h26 [a] := K21.wr W26 (Or.inl (List.mem_of_getElem? (i := 0) rfl))
  have S36 : ∀ t, Steps p.tables e below (T26.setTop (mkF m 54 #[.val (.ref a), .val (.ref b), .val (.int (0 : Int32)), .val (.int (3 : Int32)), .val .null, .val (.ref tb10)] [(.ref tb10), (.ref a)])) t → Steps p.tables e below (s₁.setTop (entryFrame m #[(.ref a), (.ref b), (.int (0 : Int32)), (.int (3 : Int32)), .null] 6)) t := fun t kt => by
    refine S27 t ?_
    show Steps p.tables e below (T26.setTop (mkF m 51 #[.val (.ref a), .val (.ref b), .val (.int (0 : Int32)), .val (.int (3 : Int32)), .val .null, .val (.ref tb10)] [])) t
    refine XS.aloadN X26.here hx rfl (hb hby own_d2_51) rfl rfl ?_
    refine XS.aload X26.here hx rfl (hb hby own_d2_52) rfl rfl ?_
    exact kt
  obtain ⟨T37, h37, X37, e37, W37, st37⟩ := putF X26 hx hZ hown (host := "") (Or.inl (hw _ (List.mem_of_getElem? (i := 28) rfl))) Via.refl e26 F29 F28 (Or.inr ⟨(hw _ (List.mem_of_getElem? (i := 29) rfl)), rfl, hnm⟩) (hw _ (List.mem_of_getElem? (i := 1) rfl)) (ty := (.array .byte)) (by decide) rfl rfl (g := (mkF m 54 #[.val (.ref a), .val (.ref b), .val (.int (0 : Int32)), .val (.int (3 : Int32)), .val .null, .val (.ref tb10)] [(.ref tb10), (.ref a)])) rfl rfl (hb hby own_d2_54)
  have S38 : ∀ t, Steps p.tables e below (T37.setTop (mkF m 57 #[.val (.ref a), .val (.ref b), .val (.int (0 : Int32)), .val (.int (3 : Int32)), .val .null, .val (.ref tb10)] [])) t → Steps p.tables e below (s₁.setTop (entryFrame m #[(.ref a), (.ref b), (.int (0 : Int32)), (.int (3 : Int32)), .null] 6)) t := fun t kt => S36 t (st37 _ kt)
  have F39 := F28.wr W37
  have F40 := F29.same W37
  have F41 := F30.other W37 (Or.inr (slot_ne (Or.inr (hw _ (List.mem_of_getElem? (i := 27) rfl))) (Or.inr (hw _ (List.mem_of_getElem? (i := 29) rfl))) (by decide) (t := .byte) (t' := (.array .byte)) (by decide) (by decide)))
  have F42 := F31.wr W37
  have F43 := F32.other W37 (Ne.symm (Exa.neArv F28 F32 (hw _ (List.mem_of_getElem? (i := 1) rfl))))
  have F44 := F33.other W37 (Ne.symm ne_a_tb10)
  have N45 := Fr.snoc X37 N34 g_a
  have K46 : Keep h0 h37 [a] := K35.wr W37 (Or.inl (List.mem_of_getElem? (i := 0) rfl))
  obtain ⟨fs, hr, hrun, hended, hW, hsame⟩ := X37.leave (v := none) (fun _ => rfl)
  refine ⟨_, _, S38 _ ?_, hrun, hended, _, _, rfl, ?_, ⟨_, rfl⟩, hW, hsame.mono (by decide) (by decide)⟩
  · show Steps p.tables e below (T37.setTop (mkF m 57 #[.val (.ref a), .val (.ref b), .val (.int (0 : Int32)), .val (.int (3 : Int32)), .val .null, .val (.ref tb10)] [])) _
    exact X37.returnOut hx Bd.returns (hb hby own_d2_57) hr
  · show own_Q2k3 Z a b c0 c1 c2 kb cs uv uc h0 n0 _ T37.heap _
    rw [e37]
    exact ⟨rfl, N45, K46, F39, F41, tb10, kt10, gt10, (Nat.le_trans (Keep.refl h0 [a]).1 sz10), ne_a_tb10, F40, F44⟩
theorem own_ef1k3 (m : MethodId) (x0 : Addr) (x1 : Addr) : entryFrame m #[(.ref x0), (.ref x1)] 2 = mkF m 0 #[.val (.ref x0), .val (.ref x1)] [] := by first | (simp [entryFrame, mkF, argsToLocals, Value.category]; done) | rfl
def own_Q1k3 (Z : State) (a : Addr) (b : Addr) (c0 : Int32) (c1 : Int32) (c2 : Int32) (kb : ClassId) (cs : Int32) (uv : Value) (uc : Value) (h0 : Heap) (n0 : Nat) (v : Option Value) (h : Heap) (L : List Loc) : Prop := v = none ∧ Fr n0 L ∧ Keep h0 h [a] ∧ Exa Z h a "java/lang/String" ∧ Fld Z h a "java/lang/String" "coder" "B" (.int (0 : Int32)) ∧ ∃ (tb : Addr) (kt : ClassId), n0 ≤ tb ∧ h0.size ≤ tb ∧ a ≠ tb ∧ Fld Z h a "java/lang/String" "value" "[B" (.ref tb) ∧ Arv Z h tb kt .byte (3 : Int32) [(.int (own_lo c0)), (.int (own_lo c1)), (.int (own_lo c2))] (.int (0 : Int32))
set_option maxHeartbeats 40000000 in
theorem own_rm1k3 (l : Launch) (Z : State) (a0 : Array Value) (hw : ∀ d ∈ tables_1, d.before a0 Z = true) (ws : List Jvm.Cond) (a : Addr) (b : Addr) (c0 : Int32) (c1 : Int32) (c2 : Int32) (kb : ClassId) (cs : Int32) (uv : Value) (uc : Value) (h0 : Heap) (n0 : Nat) (Z0 : n0 ≤ h0.size) (E_a : Exa Z h0 a "java/lang/String") (g_a : n0 ≤ a) (F_value : Fld Z h0 a "java/lang/String" "value" "[B" uv) (F_coder : Fld Z h0 a "java/lang/String" "coder" "B" uc) (S_CS : Sta Z h0 "java/lang/String" "COMPACT_STRINGS" "Z" (.int cs)) (hcs : ¬ cs = (0 : Int32)) (V_b : Arv Z h0 b kb .char (3 : Int32) [(.int c0), (.int c1), (.int c2)] (.int (0 : Int32))) (hl0 : ¬ (255 : Int32) < c0) (hl1 : ¬ (255 : Int32) < c1) (hl2 : ¬ (255 : Int32) < c2) :
    MetFree l (⟨"java/lang/String", "<init>", "([C)V"⟩ : MethodName) (head1 (Jvm.Cond.code (⟨"java/lang/String", "<init>", "([C)V"⟩ : MethodName) jdk_42_method_3_code 2 none :: ws) ({ frames := 3, cells := 1, slots := 3, locals := 52 } : Room)) (fun argv U => argv = #[(.ref a), (.ref b)] ∧ Z.Warmed39 U.vm ∧ U.heap = h0) (fun _ _ _ _ _ => True) (fun _ U o U' => ∃ v L, o = .returned v ∧ own_Q1k3 Z a b c0 c1 c2 kb cs uv uc h0 n0 v U'.heap L ∧ FrameEnd U o U' L ({ frames := 3, cells := 1, slots := 3, locals := 52 } : Room).cells ({ frames := 3, cells := 1, slots := 3, locals := 52 } : Room).slots) := by
  refine MetFree.of_bodySF (plainFor_of_name own_pn3) hisR ?_
  intro p e s m args below meth c s₁ Bd hml0 hP hK
  obtain ⟨rfl, hZ, hh⟩ := hP
  have hx := Bd.exec
  have hby := Bd.bytes
  have hml : c.maxLocals = 2 := hml0
  have hown : s.vm.findClass "java/lang/String" = some m.cls := findClass_of_methodNamed Bd.named
  have hnm := (name_of_methodNamed Bd.named Bd.method).1
  have X0 : Stand p l e ({ frames := 3, cells := 1, slots := 3, locals := 52 } : Room) s m #[(.ref a), (.ref b)] below meth c s₁ [] 0 0 := Stand.of_body Bd
  have e0 : s₁.heap = h0 := by rw [← hh, Bd.state]; rfl
  have N0 := Fr.nil n0
  have pre0 : ∀ t, Steps p.tables e below (s₁.setTop (mkF m 0 #[.val (.ref a), .val (.ref b)] [])) t → Steps p.tables e below (s₁.setTop (entryFrame m #[(.ref a), (.ref b)] 2)) t := fun t k => castTop (own_ef1k3 m a b) k
  have S1 : ∀ t, Steps p.tables e below (s₁.setTop (mkF m 4 #[.val (.ref a), .val (.ref b)] [(.ref b), (.int (0 : Int32)), (.ref b), (.ref a)])) t → Steps p.tables e below (s₁.setTop (entryFrame m #[(.ref a), (.ref b)] 2)) t := fun t kt => by
    refine pre0 t ?_
    show Steps p.tables e below (s₁.setTop (mkF m 0 #[.val (.ref a), .val (.ref b)] [])) t
    refine XS.aloadN X0.here hx rfl (hb hby own_d1_0) rfl rfl ?_
    refine XS.aloadN X0.here hx rfl (hb hby own_d1_1) rfl rfl ?_
    refine XS.iconst X0.here hx rfl (hb hby own_d1_2) ?_
    refine XS.aloadN X0.here hx rfl (hb hby own_d1_3) rfl rfl ?_
    exact kt
  obtain ⟨cl2, Ar2, -, Sz2, Nn2, -, -⟩ := id V_b
  have S5 : ∀ t, Steps p.tables e below (s₁.setTop (mkF m 6 #[.val (.ref a), .val (.ref b)] [.null, (.int (3 : Int32)), (.int (0 : Int32)), (.ref b), (.ref a)])) t → Steps p.tables e below (s₁.setTop (entryFrame m #[(.ref a), (.ref b)] 2)) t := fun t kt => by
    refine S1 t ?_
    show Steps p.tables e below (s₁.setTop (mkF m 4 #[.val (.ref a), .val (.ref b)] [(.ref b), (.int (0 : Int32)), (.ref b), (.ref a)])) t
    refine X0.arraylength hx (by rw [e0]; exact Ar2.1) (State.isArrayOf_alike hZ.alike Ar2.2.1) (g := (mkF m 4 #[.val (.ref a), .val (.ref b)] [(.ref b), (.int (0 : Int32)), (.ref b), (.ref a)])) rfl rfl (hb hby own_d1_4) _ ?_
    rw [len_of Sz2 Nn2]
    show Steps p.tables e below (s₁.setTop (mkF m 5 #[.val (.ref a), .val (.ref b)] [(.int (3 : Int32)), (.int (0 : Int32)), (.ref b), (.ref a)])) t
    refine XS.aconstNull X0.here hx rfl (hb hby own_d1_5) ?_
    exact kt
  obtain ⟨_, _, ⟨T6, L6, k6, n6⟩, -, X6, ⟨Lc6, hQ6, l6, y6, z6⟩, st6⟩ := X0.specialBack hx (y := (⟨"java/lang/String", "<init>", "([CIILjava/lang/Void;)V"⟩ : MethodName)) rfl hown (mvT hZ (hw _ (List.mem_of_getElem? (i := 7) rfl))) (mvT hZ (hw _ (List.mem_of_getElem? (i := 8) rfl))) (mvT hZ (hw _ (List.mem_of_getElem? (i := 10) rfl))) (by decide) (backOf (W := 0) (own_rm2k3 l Z a0 hw [] (a) (b) (c0) (c1) (c2) (kb) (cs) (uv) (uc) h0 n0 Z0 E_a g_a F_value F_coder S_CS hcs V_b hl0 hl1 hl2) hZ (hw _ (List.mem_of_getElem? (i := 10) rfl)) (hw _ (List.mem_of_getElem? (i := 2) rfl)) (by decide) (by decide)) (g := (mkF m 6 #[.val (.ref a), .val (.ref b)] [.null, (.int (3 : Int32)), (.int (0 : Int32)), (.ref b), (.ref a)])) rfl (by rw [hml]; rfl) (Steps.refl _) (a := a) (argsL := [(.ref b), (.int (0 : Int32)), (.int (3 : Int32)), .null]) (rest := []) (lenOf own_pd4 rfl) rfl (by show 2 * 0 + _ ≤ _; exact Nat.le_of_eq rfl) (hb hby own_d1_6) (fun _ _ => ⟨rfl, e0, (by decide : 0 + 1 ≤ _), (by decide : 0 + 3 ≤ _)⟩)
  dsimp only [Pt.U, Pt.locs, Pt.cells, Pt.slots] at X6 l6 y6 z6 st6 hQ6
  subst l6 y6 z6
  obtain ⟨rfl, Nq6, Kc3, Ec3, Cc3, tb3, kt3, gt3, sz3, nat3, Fv3, Va3⟩ := hQ6
  have N7 := Fr.app N0 Nq6
  have S8 : ∀ t, Steps p.tables e below (T6.setTop (mkF m 9 #[.val (.ref a), .val (.ref b)] [])) t → Steps p.tables e below (s₁.setTop (entryFrame m #[(.ref a), (.ref b)] 2)) t := fun t kt => S5 t (st6.trans kt)
  have F9 := E_a.keep Kc3
  have F10 := own_StaK S_CS Kc3 (allS (own_ExaS E_a) all0)
  have F11 := V_b.keep Kc3 (ninS (Ne.symm (Exa.neArv E_a V_b (hw _ (List.mem_of_getElem? (i := 1) rfl)))) nin0)
  have K12 : Keep h0 T6.heap [a] := (Keep.refl h0 [a]).trans Kc3 (allS (Or.inl (List.mem_of_getElem? (i := 0) rfl)) all0)
  have ne_b_tb3 : b ≠ tb3 := Nat.ne_of_lt (Nat.lt_of_lt_of_le V_b.lt sz3)
  obtain ⟨fs, hr, hrun, hended, hW, hsame⟩ := X6.leave (v := none) (fun _ => rfl)
  refine ⟨_, _, S8 _ ?_, hrun, hended, _, _, rfl, ?_, ⟨_, rfl⟩, hW, hsame.mono (by decide) (by decide)⟩
  · show Steps p.tables e below (T6.setTop (mkF m 9 #[.val (.ref a), .val (.ref b)] [])) _
    exact X6.returnOut hx Bd.returns (hb hby own_d1_9) hr
  · show own_Q1k3 Z a b c0 c1 c2 kb cs uv uc h0 n0 _ T6.heap _
    exact ⟨rfl, N7, K12, Ec3, Cc3, tb3, kt3, gt3, (Nat.le_trans (Keep.refl h0 [a]).1 sz3), nat3, Fv3, Va3⟩
theorem own_d2_8 : decode jdk_42_method_149_code 8 = .ok (.aload_n 0, 1) := by decide +kernel
theorem own_d2_9 : decode jdk_42_method_149_code 9 = .ok (.ldc 7, 2) := by decide +kernel
theorem own_d2_11 : decode jdk_42_method_149_code 11 = .ok (.getfield 9, 3) := by decide +kernel
theorem own_d2_14 : decode jdk_42_method_149_code 14 = .ok (.putfield 9, 3) := by decide +kernel
theorem own_d2_17 : decode jdk_42_method_149_code 17 = .ok (.aload_n 0, 1) := by decide +kernel
theorem own_d2_18 : decode jdk_42_method_149_code 18 = .ok (.ldc 7, 2) := by decide +kernel
theorem own_d2_20 : decode jdk_42_method_149_code 20 = .ok (.getfield 15, 3) := by decide +kernel
theorem own_d2_23 : decode jdk_42_method_149_code 23 = .ok (.putfield 15, 3) := by decide +kernel
theorem own_d2_26 : decode jdk_42_method_149_code 26 = .ok (.return_, 1) := by decide +kernel
theorem own_ef2k0 (m : MethodId) (x0 : Addr) (x1 : Addr) (x2 : Int32) (x3 : Int32) : entryFrame m #[(.ref x0), (.ref x1), (.int x2), (.int x3), .null] 6 = mkF m 0 #[.val (.ref x0), .val (.ref x1), .val (.int x2), .val (.int x3), .val .null, .unset] [] := by first | (simp [entryFrame, mkF, argsToLocals, Value.category]; done) | rfl
def own_Q2k0 (Z : State) (a : Addr) (b : Addr) (uv : Value) (uc : Value) (h0 : Heap) (n0 : Nat) (v : Option Value) (h : Heap) (L : List Loc) : Prop := v = none ∧ Fr n0 L ∧ Keep h0 h [a] ∧ Exa Z h a "java/lang/String" ∧ Fld Z h a "java/lang/String" "coder" "B" (.int (0 : Int32)) ∧ ∃ (tb : Addr) (kt : ClassId), a ≠ tb ∧ Fld Z h a "java/lang/String" "value" "[B" (.ref tb) ∧ Arv Z h tb kt .byte (0 : Int32) [] (.int (0 : Int32))
set_option maxHeartbeats 40000000 in
theorem own_rm2k0 (l : Launch) (Z : State) (a0 : Array Value) (hw : ∀ d ∈ tables_1, d.before a0 Z = true) (ws : List Jvm.Cond) (a : Addr) (b : Addr) (uv : Value) (uc : Value) (h0 : Heap) (n0 : Nat) (Z0 : n0 ≤ h0.size) (E_a : Exa Z h0 a "java/lang/String") (g_a : n0 ≤ a) (F_value : Fld Z h0 a "java/lang/String" "value" "[B" uv) (F_coder : Fld Z h0 a "java/lang/String" "coder" "B" uc) :
    MetFree l (⟨"java/lang/String", "<init>", "([CIILjava/lang/Void;)V"⟩ : MethodName) (head1 (Jvm.Cond.code (⟨"java/lang/String", "<init>", "([CIILjava/lang/Void;)V"⟩ : MethodName) jdk_42_method_149_code 6 none :: ws) ({ frames := 1, cells := 4, slots := 8, locals := 12 } : Room)) (fun argv U => argv = #[(.ref a), (.ref b), (.int (0 : Int32)), (.int (0 : Int32)), .null] ∧ Z.Warmed39 U.vm ∧ U.heap = h0 ∧ CHv Z own_EL U.vm h0 ∧ Safe Z own_EL U.vm h0 a) (fun _ _ _ _ _ => True) (fun _ U o U' => ∃ v L, o = .returned v ∧ own_Q2k0 Z a b uv uc h0 n0 v U'.heap L ∧ CHr Z own_EL U.vm U.heap U'.vm U'.heap ∧ ReturnedEndW U o U' L ({ frames := 1, cells := 4, slots := 8, locals := 12 } : Room).cells ({ frames := 1, cells := 4, slots := 8, locals := 12 } : Room).slots) := by
  refine MetFree.of_bodySF (plainFor_of_name own_pn3) hisR ?_
  intro p e s m args below meth c s₁ Bd hml0 hP hK
  obtain ⟨rfl, hZ, hh, hC0, Sf_a⟩ := hP
  have hx := Bd.exec
  have hby := Bd.bytes
  have hml : c.maxLocals = 6 := hml0
  have hown : s.vm.findClass "java/lang/String" = some m.cls := findClass_of_methodNamed Bd.named
  have hnm := (name_of_methodNamed Bd.named Bd.method).1
  have X0 : Stand p l e ({ frames := 1, cells := 4, slots := 8, locals := 12 } : Room) (s.setVm s.vm) m #[(.ref a), (.ref b), (.int (0 : Int32)), (.int (0 : Int32)), .null] below meth c s₁ [] 0 0 := Stand.of_body Bd
  have e0 : s₁.heap = h0 := by rw [← hh, Bd.state]; rfl
  have N0 := Fr.nil n0
  have pre0 : ∀ t, Steps p.tables e below (s₁.setTop (mkF m 0 #[.val (.ref a), .val (.ref b), .val (.int (0 : Int32)), .val (.int (0 : Int32)), .val .null, .unset] [])) t → Steps p.tables e below (s₁.setTop (entryFrame m #[(.ref a), (.ref b), (.int (0 : Int32)), (.int (0 : Int32)), .null] 6)) t := fun t k => castTop (own_ef2k0 m a b (0 : Int32) (0 : Int32)) k
  have CR0 : CHr Z own_EL s.vm h0 s.vm h0 := CHr.refl hC0
  have hEL := own_EW hw
  have hS0 : s.Since s.vm h0.size := (State.WarmedH.refl s).since _
  have wS := own_wS hw
  have S1 : ∀ t, Steps p.tables e below (s₁.setTop (mkF m 1 #[.val (.ref a), .val (.ref b), .val (.int (0 : Int32)), .val (.int (0 : Int32)), .val .null, .unset] [(.ref a)])) t → Steps p.tables e below (s₁.setTop (entryFrame m #[(.ref a), (.ref b), (.int (0 : Int32)), (.int (0 : Int32)), .null] 6)) t := fun t kt => by
    refine pre0 t ?_
    show Steps p.tables e below (s₁.setTop (mkF m 0 #[.val (.ref a), .val (.ref b), .val (.int (0 : Int32)), .val (.int (0 : Int32)), .val .null, .unset] [])) t
    refine XS.aloadN X0.here hx rfl (hb hby own_d2_0) rfl rfl ?_
    exact kt
  obtain ⟨T2, X2, e2, st2⟩ := initO X0 hx hZ hown (hw _ (List.mem_of_getElem? (i := 11) rfl)) (hw _ (List.mem_of_getElem? (i := 12) rfl)) (hw _ (List.mem_of_getElem? (i := 13) rfl)) e0 (g := (mkF m 1 #[.val (.ref a), .val (.ref b), .val (.int (0 : Int32)), .val (.int (0 : Int32)), .val .null, .unset] [(.ref a)])) rfl (by rw [hml]; rfl) rfl (hb hby own_d2_1) (by decide) (W := 0) (by show 2 * 0 + _ ≤ _; exact Nat.le_of_eq rfl) (by decide)
  have S3 : ∀ t, Steps p.tables e below (T2.setTop (mkF m 4 #[.val (.ref a), .val (.ref b), .val (.int (0 : Int32)), .val (.int (0 : Int32)), .val .null, .unset] [])) t → Steps p.tables e below (s₁.setTop (entryFrame m #[(.ref a), (.ref b), (.int (0 : Int32)), (.int (0 : Int32)), .null] 6)) t := fun t kt => S1 t (st2 _ kt)
  have S4 : ∀ t, Steps p.tables e below (T2.setTop (mkF m 5 #[.val (.ref a), .val (.ref b), .val (.int (0 : Int32)), .val (.int (0 : Int32)), .val .null, .unset] [(.int (0 : Int32))])) t → Steps p.tables e below (s₁.setTop (entryFrame m #[(.ref a), (.ref b), (.int (0 : Int32)), (.int (0 : Int32)), .null] 6)) t := fun t kt => by
    refine S3 t ?_
    show Steps p.tables e below (T2.setTop (mkF m 4 #[.val (.ref a), .val (.ref b), .val (.int (0 : Int32)), .val (.int (0 : Int32)), .val .null, .unset] [])) t
    refine XS.iloadN X2.here hx rfl (hb hby own_d2_4) rfl ?_
    exact kt
  have hc5_5 : (0 : Int32) = (0 : Int32) := by decide
  have S6 : ∀ t, Steps p.tables e below (T2.setTop (mkF m 9 #[.val (.ref a), .val (.ref b), .val (.int (0 : Int32)), .val (.int (0 : Int32)), .val .null, .unset] [(.ref a)])) t → Steps p.tables e below (s₁.setTop (entryFrame m #[(.ref a), (.ref b), (.int (0 : Int32)), (.int (0 : Int32)), .null] 6)) t := fun t kt => by
    refine S4 t ?_
    show Steps p.tables e below (T2.setTop (mkF m 5 #[.val (.ref a), .val (.ref b), .val (.int (0 : Int32)), .val (.int (0 : Int32)), .val .null, .unset] [(.int (0 : Int32))])) t
    refine XS.ifNo X2.here hx rfl (hb hby own_d2_5) rfl ((if0 _ _).trans (teq hc5_5).2) ?_
    refine XS.aloadN X2.here hx rfl (hb hby own_d2_8) rfl rfl ?_
    exact kt
  obtain ⟨lit7, T7, h7, k7, lby7, kb7, X7, e7, E7, hS7, hk7, hZ7, ho7, LE7, LC7, LV7, LA7, -, -, hC7, -, hNe7, st7⟩ := ldcCH (EL := own_EL) (z := (0 : Int32)) (vs := []) X2 hx hZ hown (hw _ (List.mem_of_getElem? (i := 80) rfl)) wS e2 hS0 (Nat.le_refl _) hEL (List.mem_of_getElem? (i := 0) rfl) CR0.1 ⟨by decide, by decide⟩ (by decide) (by decide) (g := (mkF m 9 #[.val (.ref a), .val (.ref b), .val (.int (0 : Int32)), .val (.int (0 : Int32)), .val .null, .unset] [(.ref a)])) rfl (hb hby own_d2_9) (n := 0) (by decide) (by decide) (by decide) (by decide)
  have S8 : ∀ t, Steps p.tables e below (T7.setTop (mkF m 11 #[.val (.ref a), .val (.ref b), .val (.int (0 : Int32)), .val (.int (0 : Int32)), .val .null, .unset] [(.ref lit7), (.ref a)])) t → Steps p.tables e below (s₁.setTop (entryFrame m #[(.ref a), (.ref b), (.int (0 : Int32)), (.int (0 : Int32)), .null] 6)) t := fun t kt => S6 t (st7 _ kt)
  have Sf9 := hC7.safe (E_a.lt) Sf_a
  have CR10 := CR0.trans hC7
  have ne_a_lit7 := (hNe7 _ Sf9).1
  have ne_a_lby7 := (hNe7 _ Sf9).2
  have F11 := E_a.ext E7
  have F12 := F_value.ext E7
  have F13 := F_coder.ext E7
  have K14 : Keep h0 h7 [a] := (Keep.refl h0 [a]).ext E7
  obtain ⟨T15, X15, e15, st15⟩ := getF X7 hx hZ7 ho7 (host := "") (Or.inl (hw _ (List.mem_of_getElem? (i := 28) rfl))) Via.refl e7 LV7 (g := (mkF m 11 #[.val (.ref a), .val (.ref b), .val (.int (0 : Int32)), .val (.int (0 : Int32)), .val .null, .unset] [(.ref lit7), (.ref a)])) rfl rfl (hb hby own_d2_11)
  have S16 : ∀ t, Steps p.tables e below (T15.setTop (mkF m 14 #[.val (.ref a), .val (.ref b), .val (.int (0 : Int32)), .val (.int (0 : Int32)), .val .null, .unset] [(.ref lby7), (.ref a)])) t → Steps p.tables e below (s₁.setTop (entryFrame m #[(.ref a), (.ref b), (.int (0 : Int32)), (.int (0 : Int32)), .null] 6)) t := fun t kt => S8 t (st15 _ kt)
  obtain ⟨T17, h17, X17, e17, W17, st17⟩ := putF X15 hx hZ7 ho7 (host := "") (Or.inl (hw _ (List.mem_of_getElem? (i := 28) rfl))) Via.refl e15 F12 F11 (Or.inr ⟨(hw _ (List.mem_of_getElem? (i := 29) rfl)), rfl, hnm⟩) (hw _ (List.mem_of_getElem? (i := 1) rfl)) (ty := (.array .byte)) (by decide) rfl rfl (g := (mkF m 14 #[.val (.ref a), .val (.ref b), .val (.int (0 : Int32)), .val (.int (0 : Int32)), .val .null, .unset] [(.ref lby7), (.ref a)])) rfl rfl (hb hby own_d2_14)
  have S18 : ∀ t, Steps p.tables e below (T17.setTop (mkF m 17 #[.val (.ref a), .val (.ref b), .val (.int (0 : Int32)), .val (.int (0 : Int32)), .val .null, .unset] [])) t → Steps p.tables e below (s₁.setTop (entryFrame m #[(.ref a), (.ref b), (.int (0 : Int32)), (.int (0 : Int32)), .null] 6)) t := fun t kt => S16 t (st17 _ kt)
  have Sf19 := Safe.wr W17 Sf9 CR10.1 Sf9
  have CR20 := CR10.trans (CHr.wr W17 Sf9 CR10.1)
  have F21 := F11.wr W17
  have F22 := F12.same W17
  have F23 := F13.other W17 (Or.inr (slot_ne (Or.inr (hw _ (List.mem_of_getElem? (i := 27) rfl))) (Or.inr (hw _ (List.mem_of_getElem? (i := 29) rfl))) (by decide) (t := .byte) (t' := (.array .byte)) (by decide) (by decide)))
  have F24 := LE7.wr W17
  have F25 := LC7.other W17 (Or.inl (Ne.symm ne_a_lit7))
  have F26 := LV7.other W17 (Or.inl (Ne.symm ne_a_lit7))
  have F27 := LA7.other W17 (Ne.symm ne_a_lby7)
  have N28 := Fr.snoc X17 N0 g_a
  have K29 : Keep h0 h17 [a] := K14.wr W17 (Or.inl (List.mem_of_getElem? (i := 0) rfl))
  have S30 : ∀ t, Steps p.tables e below (T17.setTop (mkF m 18 #[.val (.ref a), .val (.ref b), .val (.int (0 : Int32)), .val (.int (0 : Int32)), .val .null, .unset] [(.ref a)])) t → Steps p.tables e below (s₁.setTop (entryFrame m #[(.ref a), (.ref b), (.int (0 : Int32)), (.int (0 : Int32)), .null] 6)) t := fun t kt => by
    refine S18 t ?_
    show Steps p.tables e below (T17.setTop (mkF m 17 #[.val (.ref a), .val (.ref b), .val (.int (0 : Int32)), .val (.int (0 : Int32)), .val .null, .unset] [])) t
    refine XS.aloadN X17.here hx rfl (hb hby own_d2_17) rfl rfl ?_
    exact kt
  obtain ⟨lit31, T31, h31, k31, lby31, kb31, X31, e31, E31, hS31, hk31, hZ31, ho31, LE31, LC31, LV31, LA31, -, -, hC31, -, hNe31, st31⟩ := ldcCH (EL := own_EL) (z := (0 : Int32)) (vs := []) X17 hx hZ7 ho7 (hw _ (List.mem_of_getElem? (i := 80) rfl)) wS e17 hS7 (Nat.le_trans hk7 (Keep.of_wr W17).1) hEL (List.mem_of_getElem? (i := 0) rfl) CR20.1 ⟨by decide, by decide⟩ (by decide) (by decide) (g := (mkF m 18 #[.val (.ref a), .val (.ref b), .val (.int (0 : Int32)), .val (.int (0 : Int32)), .val .null, .unset] [(.ref a)])) rfl (hb hby own_d2_18) (n := 0) (by decide) (by decide) (by decide) (by decide)
  have S32 : ∀ t, Steps p.tables e below (T31.setTop (mkF m 20 #[.val (.ref a), .val (.ref b), .val (.int (0 : Int32)), .val (.int (0 : Int32)), .val .null, .unset] [(.ref lit31), (.ref a)])) t → Steps p.tables e below (s₁.setTop (entryFrame m #[(.ref a), (.ref b), (.int (0 : Int32)), (.int (0 : Int32)), .null] 6)) t := fun t kt => S30 t (st31 _ kt)
  have Sf33 := hC31.safe (F21.lt) Sf19
  have CR34 := CR20.trans hC31
  have ne_a_lit31 := (hNe31 _ Sf33).1
  have ne_a_lby31 := (hNe31 _ Sf33).2
  have F35 := F21.ext E31
  have F36 := F22.ext E31
  have F37 := F23.ext E31
  have F38 := F24.ext E31
  have F39 := F25.ext E31
  have F40 := F26.ext E31
  have F41 := F27.ext E31
  have K42 : Keep h0 h31 [a] := K29.ext E31
  obtain ⟨T43, X43, e43, st43⟩ := getF X31 hx hZ31 ho31 (host := "") (Or.inl (hw _ (List.mem_of_getElem? (i := 26) rfl))) Via.refl e31 LC31 (g := (mkF m 20 #[.val (.ref a), .val (.ref b), .val (.int (0 : Int32)), .val (.int (0 : Int32)), .val .null, .unset] [(.ref lit31), (.ref a)])) rfl rfl (hb hby own_d2_20)
  have S44 : ∀ t, Steps p.tables e below (T43.setTop (mkF m 23 #[.val (.ref a), .val (.ref b), .val (.int (0 : Int32)), .val (.int (0 : Int32)), .val .null, .unset] [(.int (0 : Int32)), (.ref a)])) t → Steps p.tables e below (s₁.setTop (entryFrame m #[(.ref a), (.ref b), (.int (0 : Int32)), (.int (0 : Int32)), .null] 6)) t := fun t kt => S32 t (st43 _ kt)
  obtain ⟨T45, h45, X45, e45, W45, st45⟩ := putFN X43 hx hZ31 ho31 (hw _ (List.mem_of_getElem? (i := 26) rfl)) Via.refl e43 F37 F35 (Or.inr ⟨(hw _ (List.mem_of_getElem? (i := 27) rfl)), rfl, hnm⟩) (hw _ (List.mem_of_getElem? (i := 1) rfl)) (ty := .byte) (v' := (.int (0 : Int32))) (by decide) rfl (by decide) (g := (mkF m 23 #[.val (.ref a), .val (.ref b), .val (.int (0 : Int32)), .val (.int (0 : Int32)), .val .null, .unset] [(.int (0 : Int32)), (.ref a)])) rfl rfl (hb hby own_d2_23)
  have S46 : ∀ t, Steps p.tables e below (T45.setTop (mkF m 26 #[.val (.ref a), .val (.ref b), .val (.int (0 : Int32)), .val (.int (0 : Int32)), .val .null, .unset] [])) t → Steps p.tables e below (s₁.setTop (entryFrame m #[(.ref a), (.ref b), (.int (0 : Int32)), (.int (0 : Int32)), .null] 6)) t := fun t kt => S44 t (st45 _ kt)
  have Sf47 := Safe.wr W45 Sf33 CR34.1 Sf33
  have CR48 := CR34.trans (CHr.wr W45 Sf33 CR34.1)
  have F49 := F35.wr W45
  have F50 := F36.other W45 (Or.inr (slot_ne (Or.inr (hw _ (List.mem_of_getElem? (i := 29) rfl))) (Or.inr (hw _ (List.mem_of_getElem? (i := 27) rfl))) (by decide) (t := (.array .byte)) (t' := .byte) (by decide) (by decide)))
  have F51 := F37.same W45
  have F52 := F38.wr W45
  have F53 := F39.other W45 (Or.inl (Ne.symm ne_a_lit7))
  have F54 := F40.other W45 (Or.inl (Ne.symm ne_a_lit7))
  have F55 := F41.other W45 (Ne.symm ne_a_lby7)
  have F56 := LE31.wr W45
  have F57 := LC31.other W45 (Or.inl (Ne.symm ne_a_lit31))
  have F58 := LV31.other W45 (Or.inl (Ne.symm ne_a_lit31))
  have F59 := LA31.other W45 (Ne.symm ne_a_lby31)
  have N60 := Fr.snoc X45 N28 g_a
  have K61 : Keep h0 h45 [a] := K42.wr W45 (Or.inl (List.mem_of_getElem? (i := 0) rfl))
  obtain ⟨fs, hr, hrun, hended, -, hW, hBk, hsame⟩ := X45.leaveW hS31 (by rw [e45]; exact (Nat.le_trans hk31 (Keep.of_wr W45).1)) (v := none) (fun _ => rfl)
  refine ⟨_, _, S46 _ ?_, hrun, hended, _, _, rfl, ?_, (by show CHr Z own_EL s.vm s.heap T45.vm T45.heap; rw [hh, e45]; exact CR48.trans (CHv.at X45 hZ31 hEL CR48.1)), ⟨_, rfl⟩, hW, hBk, hsame.mono (by decide) (by decide)⟩
  · show Steps p.tables e below (T45.setTop (mkF m 26 #[.val (.ref a), .val (.ref b), .val (.int (0 : Int32)), .val (.int (0 : Int32)), .val .null, .unset] [])) _
    exact X45.returnOut hx Bd.returns (hb hby own_d2_26) hr
  · show own_Q2k0 Z a b uv uc h0 n0 _ T45.heap _
    rw [e45]
    exact ⟨rfl, N60, K61, F49, F51, lby7, kb7, ne_a_lby7, F50, F55⟩
theorem own_ef1k0 (m : MethodId) (x0 : Addr) (x1 : Addr) : entryFrame m #[(.ref x0), (.ref x1)] 2 = mkF m 0 #[.val (.ref x0), .val (.ref x1)] [] := by first | (simp [entryFrame, mkF, argsToLocals, Value.category]; done) | rfl
def own_Q1k0 (Z : State) (a : Addr) (b : Addr) (kb : ClassId) (uv : Value) (uc : Value) (h0 : Heap) (n0 : Nat) (v : Option Value) (h : Heap) (L : List Loc) : Prop := v = none ∧ Fr n0 L ∧ Keep h0 h [a] ∧ Exa Z h a "java/lang/String" ∧ Fld Z h a "java/lang/String" "coder" "B" (.int (0 : Int32)) ∧ ∃ (tb : Addr) (kt : ClassId), a ≠ tb ∧ Fld Z h a "java/lang/String" "value" "[B" (.ref tb) ∧ Arv Z h tb kt .byte (0 : Int32) [] (.int (0 : Int32))
set_option maxHeartbeats 40000000 in
theorem own_rm1k0 (l : Launch) (Z : State) (a0 : Array Value) (hw : ∀ d ∈ tables_1, d.before a0 Z = true) (ws : List Jvm.Cond) (a : Addr) (b : Addr) (kb : ClassId) (uv : Value) (uc : Value) (h0 : Heap) (n0 : Nat) (Z0 : n0 ≤ h0.size) (E_a : Exa Z h0 a "java/lang/String") (g_a : n0 ≤ a) (F_value : Fld Z h0 a "java/lang/String" "value" "[B" uv) (F_coder : Fld Z h0 a "java/lang/String" "coder" "B" uc) (V_b : Arv Z h0 b kb .char (0 : Int32) [] (.int (0 : Int32))) :
    MetFree l (⟨"java/lang/String", "<init>", "([C)V"⟩ : MethodName) (head1 (Jvm.Cond.code (⟨"java/lang/String", "<init>", "([C)V"⟩ : MethodName) jdk_42_method_3_code 2 none :: ws) ({ frames := 2, cells := 4, slots := 8, locals := 29 } : Room)) (fun argv U => argv = #[(.ref a), (.ref b)] ∧ Z.Warmed39 U.vm ∧ U.heap = h0 ∧ CHv Z own_EL U.vm h0 ∧ Safe Z own_EL U.vm h0 a) (fun _ _ _ _ _ => True) (fun _ U o U' => ∃ v L, o = .returned v ∧ own_Q1k0 Z a b kb uv uc h0 n0 v U'.heap L ∧ CHr Z own_EL U.vm U.heap U'.vm U'.heap ∧ ReturnedEndW U o U' L ({ frames := 2, cells := 4, slots := 8, locals := 29 } : Room).cells ({ frames := 2, cells := 4, slots := 8, locals := 29 } : Room).slots) := by
  refine MetFree.of_bodySF (plainFor_of_name own_pn3) hisR ?_
  intro p e s m args below meth c s₁ Bd hml0 hP hK
  obtain ⟨rfl, hZ, hh, hC0, Sf_a⟩ := hP
  have hx := Bd.exec
  have hby := Bd.bytes
  have hml : c.maxLocals = 2 := hml0
  have hown : s.vm.findClass "java/lang/String" = some m.cls := findClass_of_methodNamed Bd.named
  have hnm := (name_of_methodNamed Bd.named Bd.method).1
  have X0 : Stand p l e ({ frames := 2, cells := 4, slots := 8, locals := 29 } : Room) (s.setVm s.vm) m #[(.ref a), (.ref b)] below meth c s₁ [] 0 0 := Stand.of_body Bd
  have e0 : s₁.heap = h0 := by rw [← hh, Bd.state]; rfl
  have N0 := Fr.nil n0
  have pre0 : ∀ t, Steps p.tables e below (s₁.setTop (mkF m 0 #[.val (.ref a), .val (.ref b)] [])) t → Steps p.tables e below (s₁.setTop (entryFrame m #[(.ref a), (.ref b)] 2)) t := fun t k => castTop (own_ef1k0 m a b) k
  have CR0 : CHr Z own_EL s.vm h0 s.vm h0 := CHr.refl hC0
  have hEL := own_EW hw
  have hS0 : s.Since s.vm h0.size := (State.WarmedH.refl s).since _
  have wS := own_wS hw
  have S1 : ∀ t, Steps p.tables e below (s₁.setTop (mkF m 4 #[.val (.ref a), .val (.ref b)] [(.ref b), (.int (0 : Int32)), (.ref b), (.ref a)])) t → Steps p.tables e below (s₁.setTop (entryFrame m #[(.ref a), (.ref b)] 2)) t := fun t kt => by
    refine pre0 t ?_
    show Steps p.tables e below (s₁.setTop (mkF m 0 #[.val (.ref a), .val (.ref b)] [])) t
    refine XS.aloadN X0.here hx rfl (hb hby own_d1_0) rfl rfl ?_
    refine XS.aloadN X0.here hx rfl (hb hby own_d1_1) rfl rfl ?_
    refine XS.iconst X0.here hx rfl (hb hby own_d1_2) ?_
    refine XS.aloadN X0.here hx rfl (hb hby own_d1_3) rfl rfl ?_
    exact kt
  obtain ⟨cl2, Ar2, -, Sz2, Nn2, -, -⟩ := id V_b
  have S5 : ∀ t, Steps p.tables e below (s₁.setTop (mkF m 6 #[.val (.ref a), .val (.ref b)] [.null, (.int (0 : Int32)), (.int (0 : Int32)), (.ref b), (.ref a)])) t → Steps p.tables e below (s₁.setTop (entryFrame m #[(.ref a), (.ref b)] 2)) t := fun t kt => by
    refine S1 t ?_
    show Steps p.tables e below (s₁.setTop (mkF m 4 #[.val (.ref a), .val (.ref b)] [(.ref b), (.int (0 : Int32)), (.ref b), (.ref a)])) t
    refine X0.arraylength hx (by rw [e0]; exact Ar2.1) (State.isArrayOf_alike hZ.alike Ar2.2.1) (g := (mkF m 4 #[.val (.ref a), .val (.ref b)] [(.ref b), (.int (0 : Int32)), (.ref b), (.ref a)])) rfl rfl (hb hby own_d1_4) _ ?_
    rw [len_of Sz2 Nn2]
    show Steps p.tables e below (s₁.setTop (mkF m 5 #[.val (.ref a), .val (.ref b)] [(.int (0 : Int32)), (.int (0 : Int32)), (.ref b), (.ref a)])) t
    refine XS.aconstNull X0.here hx rfl (hb hby own_d1_5) ?_
    exact kt
  obtain ⟨_, _, ⟨T6, L6, k6, n6⟩, -, X6_, hSr6, hgr6, ⟨Lc6, hQ6, l6, y6, z6, hCr6⟩, st6⟩ := X0.specialBackS hx (y := (⟨"java/lang/String", "<init>", "([CIILjava/lang/Void;)V"⟩ : MethodName)) rfl hown (mvT hZ (hw _ (List.mem_of_getElem? (i := 7) rfl))) (mvT hZ (hw _ (List.mem_of_getElem? (i := 8) rfl))) (mvT hZ (hw _ (List.mem_of_getElem? (i := 10) rfl))) (by decide) (own_backSE (EL := own_EL) (s := s) (vm0 := s.vm) (W := 0) (own_rm2k0 l Z a0 hw [] (a) (b) (uv) (uc) h0 n0 Z0 E_a g_a F_value F_coder) hZ (hw _ (List.mem_of_getElem? (i := 10) rfl)) (hw _ (List.mem_of_getElem? (i := 2) rfl)) (by decide) (by decide) hEL CR0.1 (fun _ A => A.safe (E_a.lt) Sf_a)) (g := (mkF m 6 #[.val (.ref a), .val (.ref b)] [.null, (.int (0 : Int32)), (.int (0 : Int32)), (.ref b), (.ref a)])) rfl (by rw [hml]; rfl) (Steps.refl _) (a := a) (argsL := [(.ref b), (.int (0 : Int32)), (.int (0 : Int32)), .null]) (rest := []) (lenOf own_pd4 rfl) rfl (by show 2 * 0 + _ ≤ _; exact Nat.le_of_eq rfl) (hb hby own_d1_6) (fun _ _ => ⟨rfl, e0, (by decide : 0 + 4 ≤ _), (by decide : 0 + 8 ≤ _)⟩)
  dsimp only [Pt.U, Pt.locs, Pt.cells, Pt.slots] at X6_ hSr6 hgr6 l6 y6 z6 hCr6 st6 hQ6
  subst l6 y6 z6
  obtain ⟨X6, hS6, hZ6, ho6⟩ := rebS hS0 (by rw [e0]; exact (Nat.le_refl _)) X6_ hSr6 hgr6 hZ hown
  obtain ⟨rfl, Nq6, Kc3, Ec3, Cc3, tb3, kt3, nat3, Fv3, Va3⟩ := hQ6
  have N7 := Fr.app N0 Nq6
  have S8 : ∀ t, Steps p.tables e below (T6.setTop (mkF m 9 #[.val (.ref a), .val (.ref b)] [])) t → Steps p.tables e below (s₁.setTop (entryFrame m #[(.ref a), (.ref b)] 2)) t := fun t kt => S5 t (st6.trans kt)
  have Sf9 := hCr6.safe (E_a.lt) Sf_a
  have CR10 := CR0.trans hCr6
  have F11 := E_a.keep Kc3
  have F12 := V_b.keep Kc3 (ninS (Ne.symm (Exa.neArv E_a V_b (hw _ (List.mem_of_getElem? (i := 1) rfl)))) nin0)
  have K13 : Keep h0 T6.heap [a] := (Keep.refl h0 [a]).trans Kc3 (allS (Or.inl (List.mem_of_getElem? (i := 0) rfl)) all0)
  obtain ⟨fs, hr, hrun, hended, -, hW, hBk, hsame⟩ := X6.leaveW hS6 ((Nat.le_refl _)) (v := none) (fun _ => rfl)
  refine ⟨_, _, S8 _ ?_, hrun, hended, _, _, rfl, ?_, (by show CHr Z own_EL s.vm s.heap T6.vm T6.heap; rw [hh]; exact CR10.trans (CHv.at X6 hZ6 hEL CR10.1)), ⟨_, rfl⟩, hW, hBk, hsame.mono (by decide) (by decide)⟩
  · show Steps p.tables e below (T6.setTop (mkF m 9 #[.val (.ref a), .val (.ref b)] [])) _
    exact X6.returnOut hx Bd.returns (hb hby own_d1_9) hr
  · show own_Q1k0 Z a b kb uv uc h0 n0 _ T6.heap _
    exact ⟨rfl, N7, K13, Ec3, Cc3, tb3, kt3, nat3, Fv3, Va3⟩
theorem own_pd5 : parseMethodDescriptor "(Ljava/lang/String;[B)V" = some ⟨[(.object "java/lang/String"), (.array .byte)], none⟩ := by decide +kernel
theorem own_d7_0 : decode prog_49_method_2_code 0 = .ok (.new 8, 3) := by decide +kernel
theorem own_d7_3 : decode prog_49_method_2_code 3 = .ok (.dup, 1) := by decide +kernel
theorem own_d7_4 : decode prog_49_method_2_code 4 = .ok (.aload_n 0, 1) := by decide +kernel
theorem own_d7_5 : decode prog_49_method_2_code 5 = .ok (.aload_n 1, 1) := by decide +kernel
theorem own_d7_6 : decode prog_49_method_2_code 6 = .ok (.invokevirtual 17, 3) := by decide +kernel
theorem own_d7_9 : decode prog_49_method_2_code 9 = .ok (.checkcast 18, 3) := by decide +kernel
theorem own_d7_12 : decode prog_49_method_2_code 12 = .ok (.invokespecial 22, 3) := by decide +kernel
theorem own_d7_15 : decode prog_49_method_2_code 15 = .ok (.areturn, 1) := by decide +kernel
theorem own_ef7n0 (m : MethodId) (x0 : Addr) (x1 : Addr) : entryFrame m #[(.ref x0), (.ref x1)] 2 = mkF m 0 #[.val (.ref x0), .val (.ref x1)] [] := by first | (simp [entryFrame, mkF, argsToLocals, Value.category]; done) | rfl
def own_Q7n0 (Z : State) (ky : Addr) (rc : Addr) (kr : ClassId) (h0 : Heap) (n0 : Nat) (v : Option Value) (h : Heap) (L : List Loc) : Prop := ∃ (r tb : Addr), v = some (.ref r) ∧ Fr n0 L ∧ n0 ≤ tb ∧ h0.size ≤ tb ∧ Keep h0 h [] ∧ Exa Z h r "com/example/nestwarden/nestwarden/store/Journal$Change" ∧ Fld Z h r "com/example/nestwarden/nestwarden/store/Journal$Change" "key" "Ljava/lang/String;" (.ref ky) ∧ Fld Z h r "com/example/nestwarden/nestwarden/store/Journal$Change" "record" "[B" (.ref tb) ∧ Arv Z h tb kr .byte (0 : Int32) [] (.int (0 : Int32))
set_option maxHeartbeats 40000000 in
theorem own_rm7n0 (l : Launch) (Z : State) (a0 : Array Value) (hw : ∀ d ∈ tables_1, d.before a0 Z = true) (ws : List Jvm.Cond) (ky : Addr) (rc : Addr) (kr : ClassId) (h0 : Heap) (n0 : Nat) (Z0 : n0 ≤ h0.size) (V_r : Arv Z h0 rc kr .byte (0 : Int32) [] (.int (0 : Int32))) (E_r : Exa Z h0 rc "[B") :
    MetFree l (⟨"com/example/nestwarden/nestwarden/store/Journal$Change", "keep", "(Ljava/lang/String;[B)Lcom/example/nestwarden/nestwarden/store/Journal$Change;"⟩ : MethodName) (head1 (Jvm.Cond.code (⟨"com/example/nestwarden/nestwarden/store/Journal$Change", "keep", "(Ljava/lang/String;[B)Lcom/example/nestwarden/nestwarden/store/Journal$Change;"⟩ : MethodName) prog_49_method_2_code 2 (some (.object "com/example/nestwarden/nestwarden/store/Journal$Change")) :: ws) ({ frames := 3, cells := 2, slots := 2, locals := 39 } : Room)) (fun argv U => argv = #[(.ref ky), (.ref rc)] ∧ Z.Warmed39 U.vm ∧ U.heap = h0) (fun _ _ _ _ _ => True) (fun _ U o U' => ∃ v L, o = .returned v ∧ own_Q7n0 Z ky rc kr h0 n0 v U'.heap L ∧ FrameEnd U o U' L ({ frames := 3, cells := 2, slots := 2, locals := 39 } : Room).cells ({ frames := 3, cells := 2, slots := 2, locals := 39 } : Room).slots) := by
  refine MetFree.of_bodySF (plainFor_of_name own_pn1) hisR ?_
  intro p e s m args below meth c s₁ Bd hml0 hP hK
  obtain ⟨rfl, hZ, hh⟩ := hP
  have hx := Bd.exec
  have hby := Bd.bytes
  have hml : c.maxLocals = 2 := hml0
  have hown : s.vm.findClass "com/example/nestwarden/nestwarden/store/Journal$Change" = some m.cls := findClass_of_methodNamed Bd.named
  have hnm := (name_of_methodNamed Bd.named Bd.method).1
  have X0 : Stand p l e ({ frames := 3, cells := 2, slots := 2, locals := 39 } : Room) s m #[(.ref ky), (.ref rc)] below meth c s₁ [] 0 0 := Stand.of_body Bd
  have e0 : s₁.heap = h0 := by rw [← hh, Bd.state]; rfl
  have N0 := Fr.nil n0
  have pre0 : ∀ t, Steps p.tables e below (s₁.setTop (mkF m 0 #[.val (.ref ky), .val (.ref rc)] [])) t → Steps p.tables e below (s₁.setTop (entryFrame m #[(.ref ky), (.ref rc)] 2)) t := fun t k => castTop (own_ef7n0 m ky rc) k
  obtain ⟨T1, h1, X1, e1, E1, A1, D1, -, st1⟩ := newO X0 hx hZ hown (hw _ (List.mem_of_getElem? (i := 34) rfl)) (hw _ (List.mem_of_getElem? (i := 35) rfl)) (hw _ (List.mem_of_getElem? (i := 32) rfl)) e0 (g := (mkF m 0 #[.val (.ref ky), .val (.ref rc)] [])) rfl (hb hby own_d7_0) (by decide) (by decide)
  obtain ⟨b1, g1⟩ : ∃ z, z = h0.size := ⟨_, rfl⟩
  rw [← g1] at A1 D1 st1
  have S2 : ∀ t, Steps p.tables e below (T1.setTop (mkF m 3 #[.val (.ref ky), .val (.ref rc)] [(.ref b1)])) t → Steps p.tables e below (s₁.setTop (entryFrame m #[(.ref ky), (.ref rc)] 2)) t := fun t kt => pre0 t (st1 _ kt)
  have g_b1 : n0 ≤ b1 := Nat.le_trans Z0 (Nat.le_of_eq g1.symm)
  have sz_b1 : h0.size ≤ b1 := Nat.le_trans (Keep.refl h0 []).1 (Nat.le_of_eq g1.symm)
  have ne_rc_b1 : rc ≠ b1 := Nat.ne_of_lt (Nat.lt_of_lt_of_le V_r.lt (Nat.le_of_eq g1.symm))
  have F3 := V_r.ext E1
  have F4 := E_r.ext E1
  have K5 : Keep h0 h1 [] := (Keep.refl h0 []).ext E1
  have F6 : Fld Z h1 b1 "com/example/nestwarden/nestwarden/store/Journal$Change" "key" "Ljava/lang/String;" .null := D1 (Or.inr (hw _ (List.mem_of_getElem? (i := 55) rfl))) (ty := (.object "java/lang/String")) (by decide)
  have F7 : Fld Z h1 b1 "com/example/nestwarden/nestwarden/store/Journal$Change" "record" "[B" .null := D1 (Or.inr (hw _ (List.mem_of_getElem? (i := 57) rfl))) (ty := (.array .byte)) (by decide)
  have S8 : ∀ t, Steps p.tables e below (T1.setTop (mkF m 6 #[.val (.ref ky), .val (.ref rc)] [(.ref rc), (.ref ky), (.ref b1), (.ref b1)])) t → Steps p.tables e below (s₁.setTop (entryFrame m #[(.ref ky), (.ref rc)] 2)) t := fun t kt => by
    refine S2 t ?_
    show Steps p.tables e below (T1.setTop (mkF m 3 #[.val (.ref ky), .val (.ref rc)] [(.ref b1)])) t
    refine XS.dup X1.here hx rfl (hb hby own_d7_3) rfl rfl ?_
    refine XS.aloadN X1.here hx rfl (hb hby own_d7_4) rfl rfl ?_
    refine XS.aloadN X1.here hx rfl (hb hby own_d7_5) rfl rfl ?_
    exact kt
  obtain ⟨T9, h9, X9, e9, E9, A9, AE9, st9⟩ := cloneH X1 hx hZ hown (hw _ (List.mem_of_getElem? (i := 36) rfl)) (hw _ (List.mem_of_getElem? (i := 37) rfl)) (hw _ (List.mem_of_getElem? (i := 41) rfl)) (hw _ (List.mem_of_getElem? (i := 39) rfl)) (hw _ (List.mem_of_getElem? (i := 40) rfl)) (hw _ (List.mem_of_getElem? (i := 42) rfl)) e1 (Arv.arh F3) F4 (g := (mkF m 6 #[.val (.ref ky), .val (.ref rc)] [(.ref rc), (.ref ky), (.ref b1), (.ref b1)])) rfl (by rw [hml]; rfl) rfl (hb hby own_d7_6) (by decide) (W := 3) (cap := 0) (by show 2 * 0 + _ ≤ _; exact Nat.le_of_eq rfl) (by decide) (by decide) (by decide) (by decide)
  obtain ⟨b9, g9⟩ : ∃ z, z = h1.size := ⟨_, rfl⟩
  rw [← g9] at A9 AE9 st9
  have V9 : Arv Z h9 b9 kr .byte (0 : Int32) [] (.int (0 : Int32)) := A9
  have S10 : ∀ t, Steps p.tables e below (T9.setTop (mkF m 9 #[.val (.ref ky), .val (.ref rc)] [(.ref b9), (.ref ky), (.ref b1), (.ref b1)])) t → Steps p.tables e below (s₁.setTop (entryFrame m #[(.ref ky), (.ref rc)] 2)) t := fun t kt => S8 t (st9 _ kt)
  have g_b9 : n0 ≤ b9 := Nat.le_trans (Nat.le_trans Z0 K5.1) (Nat.le_of_eq g9.symm)
  have sz_b9 : h0.size ≤ b9 := Nat.le_trans K5.1 (Nat.le_of_eq g9.symm)
  have ne_rc_b9 : rc ≠ b9 := Nat.ne_of_lt (Nat.lt_of_lt_of_le F3.lt (Nat.le_of_eq g9.symm))
  have ne_b1_b9 : b1 ≠ b9 := Nat.ne_of_lt (Nat.lt_of_lt_of_le A1.lt (Nat.le_of_eq g9.symm))
  have F11 := F3.ext E9
  have F12 := F4.ext E9
  have F13 := A1.ext E9
  have F14 := F6.ext E9
  have F15 := F7.ext E9
  have K16 : Keep h0 h9 [] := K5.ext E9
  obtain ⟨T17, X17, e17, st17⟩ := castY X9 hx hZ hown (hw _ (List.mem_of_getElem? (i := 43) rfl)) e9 (Ins.self AE9) (g := (mkF m 9 #[.val (.ref ky), .val (.ref rc)] [(.ref b9), (.ref ky), (.ref b1), (.ref b1)])) rfl rfl (hb hby own_d7_9)
  have S18 : ∀ t, Steps p.tables e below (T17.setTop (mkF m 12 #[.val (.ref ky), .val (.ref rc)] [(.ref b9), (.ref ky), (.ref b1), (.ref b1)])) t → Steps p.tables e below (s₁.setTop (entryFrame m #[(.ref ky), (.ref rc)] 2)) t := fun t kt => S10 t (st17 _ kt)
  obtain ⟨_, _, ⟨T21, L21, k21, n21⟩, -, X21, ⟨Lc21, hQ21, l21, y21, z21⟩, st21⟩ := X17.specialBack hx (y := (⟨"com/example/nestwarden/nestwarden/store/Journal$Change", "<init>", "(Ljava/lang/String;[B)V"⟩ : MethodName)) rfl hown (mvT hZ (hw _ (List.mem_of_getElem? (i := 45) rfl))) (mvT hZ (hw _ (List.mem_of_getElem? (i := 46) rfl))) (mvT hZ (hw _ (List.mem_of_getElem? (i := 47) rfl))) (by decide) (backOf (W := 1) (own_rm8 l Z a0 hw [] (b1) (ky) (b9) (.null) (.null) h9 n0 (Nat.le_trans Z0 K16.1) F13 g_b1 F14 F15) hZ (hw _ (List.mem_of_getElem? (i := 47) rfl)) (hw _ (List.mem_of_getElem? (i := 32) rfl)) (by decide) (by decide)) (g := (mkF m 12 #[.val (.ref ky), .val (.ref rc)] [(.ref b9), (.ref ky), (.ref b1), (.ref b1)])) rfl (by rw [hml]; rfl) (Steps.refl _) (a := b1) (argsL := [(.ref ky), (.ref b9)]) (rest := [(.ref b1)]) (lenOf own_pd5 rfl) rfl (by show 2 * 0 + _ ≤ _; exact Nat.le_of_eq rfl) (hb hby own_d7_12) (fun _ _ => ⟨rfl, e17, (by decide : 2 + 0 ≤ _), (by decide : 2 + 0 ≤ _)⟩)
  dsimp only [Pt.U, Pt.locs, Pt.cells, Pt.slots] at X21 l21 y21 z21 st21 hQ21
  subst l21 y21 z21
  obtain ⟨rfl, Nq21, Kc19, Ec19, Fc19_key, Fc19_record⟩ := hQ21
  have N22 := Fr.app N0 Nq21
  have S23 : ∀ t, Steps p.tables e below (T21.setTop (mkF m 15 #[.val (.ref ky), .val (.ref rc)] [(.ref b1)])) t → Steps p.tables e below (s₁.setTop (entryFrame m #[(.ref ky), (.ref rc)] 2)) t := fun t kt => S18 t (st21.trans kt)
  have F24 := F11.keep Kc19 (ninS ne_rc_b1 nin0)
  have F25 := F12.keep Kc19
  have F26 := F13.keep Kc19
  have F27 := V9.keep Kc19 (ninS (Ne.symm ne_b1_b9) nin0)
  have F28 := AE9.keep Kc19
  have K29 : Keep h0 T21.heap [] := K16.trans Kc19 (allS (Or.inr sz_b1) all0)
  obtain ⟨fs, hr, hrun, hended, hW, hsame⟩ := X21.leave (v := some (.ref b1)) (fun h => by rw [Bd.returns] at h; cases h)
  refine ⟨_, _, S23 _ ?_, hrun, hended, _, _, rfl, ?_, ⟨_, rfl⟩, hW, hsame.mono (by decide) (by decide)⟩
  · show Steps p.tables e below (T21.setTop (mkF m 15 #[.val (.ref ky), .val (.ref rc)] [(.ref b1)])) _
    jvm_step X21.here [X21.here.top, hx, (hb hby own_d7_15), X21.method', Bd.returns, Value.isRef, FieldType.isReference]
    first | (intro acts; rw [hr _ acts rfl rfl rfl]) | rw [hr _ _ rfl rfl rfl]
    exact Steps.refl _
  · show own_Q7n0 Z ky rc kr h0 n0 _ T21.heap _
    exact ⟨b1, b9, rfl, N22, g_b9, sz_b9, K29, F26, Fc19_key, Fc19_record, F27⟩
theorem own_d13_0 : decode method_3_code 0 = .ok (.aload_n 0, 1) := by decide +kernel
theorem own_d13_1 : decode method_3_code 1 = .ok (.arraylength, 1) := by decide +kernel
theorem own_d13_2 : decode method_3_code 2 = .ok (.ifCond .le 12, 3) := by decide +kernel
theorem own_d13_14 : decode method_3_code 14 = .ok (.aload_n 0, 1) := by decide +kernel
theorem own_d13_15 : decode method_3_code 15 = .ok (.arraylength, 1) := by decide +kernel
theorem own_d13_16 : decode method_3_code 16 = .ok (.iconst 1, 1) := by decide +kernel
theorem own_d13_17 : decode method_3_code 17 = .ok (.if_icmp .le 12, 3) := by decide +kernel
theorem own_d13_29 : decode method_3_code 29 = .ok (.aload_n 0, 1) := by decide +kernel
theorem own_d13_30 : decode method_3_code 30 = .ok (.arraylength, 1) := by decide +kernel
theorem own_d13_31 : decode method_3_code 31 = .ok (.iconst 2, 1) := by decide +kernel
theorem own_d13_32 : decode method_3_code 32 = .ok (.if_icmp .le 12, 3) := by decide +kernel
theorem own_d13_44 : decode method_3_code 44 = .ok (.iconst 1, 1) := by decide +kernel
theorem own_d13_45 : decode method_3_code 45 = .ok (.ireturn, 1) := by decide +kernel
theorem own_ef13n0 (m : MethodId) (x0 : Addr) (x1 : Int32) (x2 : Int32) (x3 : Int32) : entryFrame m #[(.ref x0), (.int x1), (.int x2), (.int x3)] 4 = mkF m 0 #[.val (.ref x0), .val (.int x1), .val (.int x2), .val (.int x3)] [] := by first | (simp [entryFrame, mkF, argsToLocals, Value.category]; done) | rfl
def own_Q13n0 (Z : State) (rc : Addr) (b0 : Int32) (b1 : Int32) (b2 : Int32) (kr : ClassId) (h0 : Heap) (n0 : Nat) (v : Option Value) (h : Heap) (L : List Loc) : Prop := v = some (.int (1 : Int32)) ∧ L = [] ∧ h = h0
theorem own_pn4 : plainName "com/example/nestwarden/nestwarden/store/ChangeKeepPinLaw" = true := by first | (simp [plainName, overriddenIn]; done) | decide +kernel
set_option maxHeartbeats 40000000 in
theorem own_rm13n0 (l : Launch) (Z : State) (a0 : Array Value) (hw : ∀ d ∈ tables_1, d.before a0 Z = true) (ws : List Jvm.Cond) (rc : Addr) (b0 : Int32) (b1 : Int32) (b2 : Int32) (kr : ClassId) (h0 : Heap) (n0 : Nat) (Z0 : n0 ≤ h0.size) (V_r : Arv Z h0 rc kr .byte (0 : Int32) [] (.int (0 : Int32))) :
    MetFree l (⟨"com/example/nestwarden/nestwarden/store/ChangeKeepPinLaw", "same", "([BBBB)Z"⟩ : MethodName) (head1 (Jvm.Cond.code (⟨"com/example/nestwarden/nestwarden/store/ChangeKeepPinLaw", "same", "([BBBB)Z"⟩ : MethodName) method_3_code 4 (some .boolean) :: ws) ({ frames := 0, cells := 0, slots := 0, locals := 0 } : Room)) (fun argv U => argv = #[(.ref rc), (.int b0), (.int b1), (.int b2)] ∧ Z.Warmed39 U.vm ∧ U.heap = h0) (fun _ _ _ _ _ => True) (fun _ U o U' => ∃ v L, o = .returned v ∧ own_Q13n0 Z rc b0 b1 b2 kr h0 n0 v U'.heap L ∧ FrameEnd U o U' L ({ frames := 0, cells := 0, slots := 0, locals := 0 } : Room).cells ({ frames := 0, cells := 0, slots := 0, locals := 0 } : Room).slots) := by
  refine MetFree.of_bodySF (plainFor_of_name own_pn4) hisR ?_
  intro p e s m args below meth c s₁ Bd hml0 hP hK
  obtain ⟨rfl, hZ, hh⟩ := hP
  have hx := Bd.exec
  have hby := Bd.bytes
  have hml : c.maxLocals = 4 := hml0
  have hown : s.vm.findClass "com/example/nestwarden/nestwarden/store/ChangeKeepPinLaw" = some m.cls := findClass_of_methodNamed Bd.named
  have hnm := (name_of_methodNamed Bd.named Bd.method).1
  have X0 : Stand p l e ({ frames := 0, cells := 0, slots := 0, locals := 0 } : Room) s m #[(.ref rc), (.int b0), (.int b1), (.int b2)] below meth c s₁ [] 0 0 := Stand.of_body Bd
  have e0 : s₁.heap = h0 := by rw [← hh, Bd.state]; rfl
  have N0 := Fr.nil n0
  have pre0 : ∀ t, Steps p.tables e below (s₁.setTop (mkF m 0 #[.val (.ref rc), .val (.int b0), .val (.int b1), .val (.int b2)] [])) t → Steps p.tables e below (s₁.setTop (entryFrame m #[(.ref rc), (.int b0), (.int b1), (.int b2)] 4)) t := fun t k => castTop (own_ef13n0 m rc b0 b1 b2) k
  have S1 : ∀ t, Steps p.tables e below (s₁.setTop (mkF m 1 #[.val (.ref rc), .val (.int b0), .val (.int b1), .val (.int b2)] [(.ref rc)])) t → Steps p.tables e below (s₁.setTop (entryFrame m #[(.ref rc), (.int b0), (.int b1), (.int b2)] 4)) t := fun t kt => by
    refine pre0 t ?_
    show Steps p.tables e below (s₁.setTop (mkF m 0 #[.val (.ref rc), .val (.int b0), .val (.int b1), .val (.int b2)] [])) t
    refine XS.aloadN X0.here hx rfl (hb hby own_d13_0) rfl rfl ?_
    exact kt
  obtain ⟨cl2, Ar2, -, Sz2, Nn2, -, -⟩ := id V_r
  have S3 : ∀ t, Steps p.tables e below (s₁.setTop (mkF m 2 #[.val (.ref rc), .val (.int b0), .val (.int b1), .val (.int b2)] [(.int (0 : Int32))])) t → Steps p.tables e below (s₁.setTop (entryFrame m #[(.ref rc), (.int b0), (.int b1), (.int b2)] 4)) t := fun t kt => by
    refine S1 t ?_
    show Steps p.tables e below (s₁.setTop (mkF m 1 #[.val (.ref rc), .val (.int b0), .val (.int b1), .val (.int b2)] [(.ref rc)])) t
    refine X0.arraylength hx (by rw [e0]; exact Ar2.1) (State.isArrayOf_alike hZ.alike Ar2.2.1) (g := (mkF m 1 #[.val (.ref rc), .val (.int b0), .val (.int b1), .val (.int b2)] [(.ref rc)])) rfl rfl (hb hby own_d13_1) _ ?_
    rw [len_of Sz2 Nn2]
    exact kt
  have hc2_4 : ¬ ((0 : Int32) < (0 : Int32)) := by decide
  have S5 : ∀ t, Steps p.tables e below (s₁.setTop (mkF m 15 #[.val (.ref rc), .val (.int b0), .val (.int b1), .val (.int b2)] [(.ref rc)])) t → Steps p.tables e below (s₁.setTop (entryFrame m #[(.ref rc), (.int b0), (.int b1), (.int b2)] 4)) t := fun t kt => by
    refine S3 t ?_
    show Steps p.tables e below (s₁.setTop (mkF m 2 #[.val (.ref rc), .val (.int b0), .val (.int b1), .val (.int b2)] [(.int (0 : Int32))])) t
    refine XS.ifYes X0.here hx rfl (pc0 := 2) (pc' := 14) rfl (hb hby own_d13_2) rfl ((if0 _ _).trans (flt hc2_4).2.2.2) (by decide) (by decide) ?_
    refine XS.aloadN X0.here hx rfl (hb hby own_d13_14) rfl rfl ?_
    exact kt
  obtain ⟨cl6, Ar6, -, Sz6, Nn6, -, -⟩ := id V_r
  have S7 : ∀ t, Steps p.tables e below (s₁.setTop (mkF m 17 #[.val (.ref rc), .val (.int b0), .val (.int b1), .val (.int b2)] [(.int (1 : Int32)), (.int (0 : Int32))])) t → Steps p.tables e below (s₁.setTop (entryFrame m #[(.ref rc), (.int b0), (.int b1), (.int b2)] 4)) t := fun t kt => by
    refine S5 t ?_
    show Steps p.tables e below (s₁.setTop (mkF m 15 #[.val (.ref rc), .val (.int b0), .val (.int b1), .val (.int b2)] [(.ref rc)])) t
    refine X0.arraylength hx (by rw [e0]; exact Ar6.1) (State.isArrayOf_alike hZ.alike Ar6.2.1) (g := (mkF m 15 #[.val (.ref rc), .val (.int b0), .val (.int b1), .val (.int b2)] [(.ref rc)])) rfl rfl (hb hby own_d13_15) _ ?_
    rw [len_of Sz6 Nn6]
    show Steps p.tables e below (s₁.setTop (mkF m 16 #[.val (.ref rc), .val (.int b0), .val (.int b1), .val (.int b2)] [(.int (0 : Int32))])) t
    refine XS.iconst X0.here hx rfl (hb hby own_d13_16) ?_
    exact kt
  have hc17_8 : ¬ ((1 : Int32) < (0 : Int32)) := by decide
  have S9 : ∀ t, Steps p.tables e below (s₁.setTop (mkF m 30 #[.val (.ref rc), .val (.int b0), .val (.int b1), .val (.int b2)] [(.ref rc)])) t → Steps p.tables e below (s₁.setTop (entryFrame m #[(.ref rc), (.int b0), (.int b1), (.int b2)] 4)) t := fun t kt => by
    refine S7 t ?_
    show Steps p.tables e below (s₁.setTop (mkF m 17 #[.val (.ref rc), .val (.int b0), .val (.int b1), .val (.int b2)] [(.int (1 : Int32)), (.int (0 : Int32))])) t
    refine XS.icmpYes X0.here hx rfl (pc0 := 17) (pc' := 29) rfl (hb hby own_d13_17) rfl (flt hc17_8).2.2.2 (by decide) (by decide) ?_
    refine XS.aloadN X0.here hx rfl (hb hby own_d13_29) rfl rfl ?_
    exact kt
  obtain ⟨cl10, Ar10, -, Sz10, Nn10, -, -⟩ := id V_r
  have S11 : ∀ t, Steps p.tables e below (s₁.setTop (mkF m 32 #[.val (.ref rc), .val (.int b0), .val (.int b1), .val (.int b2)] [(.int (2 : Int32)), (.int (0 : Int32))])) t → Steps p.tables e below (s₁.setTop (entryFrame m #[(.ref rc), (.int b0), (.int b1), (.int b2)] 4)) t := fun t kt => by
    refine S9 t ?_
    show Steps p.tables e below (s₁.setTop (mkF m 30 #[.val (.ref rc), .val (.int b0), .val (.int b1), .val (.int b2)] [(.ref rc)])) t
    refine X0.arraylength hx (by rw [e0]; exact Ar10.1) (State.isArrayOf_alike hZ.alike Ar10.2.1) (g := (mkF m 30 #[.val (.ref rc), .val (.int b0), .val (.int b1), .val (.int b2)] [(.ref rc)])) rfl rfl (hb hby own_d13_30) _ ?_
    rw [len_of Sz10 Nn10]
    show Steps p.tables e below (s₁.setTop (mkF m 31 #[.val (.ref rc), .val (.int b0), .val (.int b1), .val (.int b2)] [(.int (0 : Int32))])) t
    refine XS.iconst X0.here hx rfl (hb hby own_d13_31) ?_
    exact kt
  have hc32_12 : ¬ ((2 : Int32) < (0 : Int32)) := by decide
  have S13 : ∀ t, Steps p.tables e below (s₁.setTop (mkF m 45 #[.val (.ref rc), .val (.int b0), .val (.int b1), .val (.int b2)] [(.int (1 : Int32))])) t → Steps p.tables e below (s₁.setTop (entryFrame m #[(.ref rc), (.int b0), (.int b1), (.int b2)] 4)) t := fun t kt => by
    refine S11 t ?_
    show Steps p.tables e below (s₁.setTop (mkF m 32 #[.val (.ref rc), .val (.int b0), .val (.int b1), .val (.int b2)] [(.int (2 : Int32)), (.int (0 : Int32))])) t
    refine XS.icmpYes X0.here hx rfl (pc0 := 32) (pc' := 44) rfl (hb hby own_d13_32) rfl (flt hc32_12).2.2.2 (by decide) (by decide) ?_
    refine XS.iconst X0.here hx rfl (hb hby own_d13_44) ?_
    exact kt
  obtain ⟨fs, hr, hrun, hended, hW, hsame⟩ := X0.leave (v := some (.int (nar .boolean (1 : Int32)))) (fun h => by rw [Bd.returns] at h; cases h)
  refine ⟨_, _, S13 _ ?_, hrun, hended, _, _, rfl, ?_, ⟨_, rfl⟩, hW, hsame.mono (by decide) (by decide)⟩
  · show Steps p.tables e below (s₁.setTop (mkF m 45 #[.val (.ref rc), .val (.int b0), .val (.int b1), .val (.int b2)] [(.int (1 : Int32))])) _
    exact retN X0 hx (t := .boolean) Bd.returns (by simp) (hb hby own_d13_45) hr
  · show own_Q13n0 Z rc b0 b1 b2 kr h0 n0 _ s₁.heap _
    rw [e0]
    exact ⟨rfl, rfl, rfl⟩
theorem own_d14_0 : decode method_4_code 0 = .ok (.aload_n 0, 1) := by decide +kernel
theorem own_d14_1 : decode method_4_code 1 = .ok (.arraylength, 1) := by decide +kernel
theorem own_d14_2 : decode method_4_code 2 = .ok (.ifCond .le 12, 3) := by decide +kernel
theorem own_d14_14 : decode method_4_code 14 = .ok (.aload_n 0, 1) := by decide +kernel
theorem own_d14_15 : decode method_4_code 15 = .ok (.arraylength, 1) := by decide +kernel
theorem own_d14_16 : decode method_4_code 16 = .ok (.iconst 1, 1) := by decide +kernel
theorem own_d14_17 : decode method_4_code 17 = .ok (.if_icmp .le 12, 3) := by decide +kernel
theorem own_d14_29 : decode method_4_code 29 = .ok (.aload_n 0, 1) := by decide +kernel
theorem own_d14_30 : decode method_4_code 30 = .ok (.arraylength, 1) := by decide +kernel
theorem own_d14_31 : decode method_4_code 31 = .ok (.iconst 2, 1) := by decide +kernel
theorem own_d14_32 : decode method_4_code 32 = .ok (.if_icmp .le 12, 3) := by decide +kernel
theorem own_d14_44 : decode method_4_code 44 = .ok (.return_, 1) := by decide +kernel
theorem own_ef14n0 (m : MethodId) (x0 : Addr) : entryFrame m #[(.ref x0)] 1 = mkF m 0 #[.val (.ref x0)] [] := by first | (simp [entryFrame, mkF, argsToLocals, Value.category]; done) | rfl
def own_Q14n0 (Z : State) (rc : Addr) (kr : ClassId) (h0 : Heap) (n0 : Nat) (v : Option Value) (h : Heap) (L : List Loc) : Prop := v = none ∧ Fr n0 L ∧ Keep h0 h [rc]
set_option maxHeartbeats 40000000 in
theorem own_rm14n0 (l : Launch) (Z : State) (a0 : Array Value) (hw : ∀ d ∈ tables_1, d.before a0 Z = true) (ws : List Jvm.Cond) (rc : Addr) (kr : ClassId) (h0 : Heap) (n0 : Nat) (Z0 : n0 ≤ h0.size) (V_r : Arv Z h0 rc kr .byte (0 : Int32) [] (.int (0 : Int32))) (g_rc : n0 ≤ rc) :
    MetFree l (⟨"com/example/nestwarden/nestwarden/store/ChangeKeepPinLaw", "flip", "([B)V"⟩ : MethodName) (head1 (Jvm.Cond.code (⟨"com/example/nestwarden/nestwarden/store/ChangeKeepPinLaw", "flip", "([B)V"⟩ : MethodName) method_4_code 1 none :: ws) ({ frames := 0, cells := 0, slots := 0, locals := 0 } : Room)) (fun argv U => argv = #[(.ref rc)] ∧ Z.Warmed39 U.vm ∧ U.heap = h0) (fun _ _ _ _ _ => True) (fun _ U o U' => ∃ v L, o = .returned v ∧ own_Q14n0 Z rc kr h0 n0 v U'.heap L ∧ FrameEnd U o U' L ({ frames := 0, cells := 0, slots := 0, locals := 0 } : Room).cells ({ frames := 0, cells := 0, slots := 0, locals := 0 } : Room).slots) := by
  refine MetFree.of_bodySF (plainFor_of_name own_pn4) hisR ?_
  intro p e s m args below meth c s₁ Bd hml0 hP hK
  obtain ⟨rfl, hZ, hh⟩ := hP
  have hx := Bd.exec
  have hby := Bd.bytes
  have hml : c.maxLocals = 1 := hml0
  have hown : s.vm.findClass "com/example/nestwarden/nestwarden/store/ChangeKeepPinLaw" = some m.cls := findClass_of_methodNamed Bd.named
  have hnm := (name_of_methodNamed Bd.named Bd.method).1
  have X0 : Stand p l e ({ frames := 0, cells := 0, slots := 0, locals := 0 } : Room) s m #[(.ref rc)] below meth c s₁ [] 0 0 := Stand.of_body Bd
  have e0 : s₁.heap = h0 := by rw [← hh, Bd.state]; rfl
  have N0 := Fr.nil n0
  have pre0 : ∀ t, Steps p.tables e below (s₁.setTop (mkF m 0 #[.val (.ref rc)] [])) t → Steps p.tables e below (s₁.setTop (entryFrame m #[(.ref rc)] 1)) t := fun t k => castTop (own_ef14n0 m rc) k
  have S1 : ∀ t, Steps p.tables e below (s₁.setTop (mkF m 1 #[.val (.ref rc)] [(.ref rc)])) t → Steps p.tables e below (s₁.setTop (entryFrame m #[(.ref rc)] 1)) t := fun t kt => by
    refine pre0 t ?_
    show Steps p.tables e below (s₁.setTop (mkF m 0 #[.val (.ref rc)] [])) t
    refine XS.aloadN X0.here hx rfl (hb hby own_d14_0) rfl rfl ?_
    exact kt
  obtain ⟨cl2, Ar2, -, Sz2, Nn2, -, -⟩ := id V_r
  have S3 : ∀ t, Steps p.tables e below (s₁.setTop (mkF m 2 #[.val (.ref rc)] [(.int (0 : Int32))])) t → Steps p.tables e below (s₁.setTop (entryFrame m #[(.ref rc)] 1)) t := fun t kt => by
    refine S1 t ?_
    show Steps p.tables e below (s₁.setTop (mkF m 1 #[.val (.ref rc)] [(.ref rc)])) t
    refine X0.arraylength hx (by rw [e0]; exact Ar2.1) (State.isArrayOf_alike hZ.alike Ar2.2.1) (g := (mkF m 1 #[.val (.ref rc)] [(.ref rc)])) rfl rfl (hb hby own_d14_1) _ ?_
    rw [len_of Sz2 Nn2]
    exact kt
  have hc2_4 : ¬ ((0 : Int32) < (0 : Int32)) := by decide
  have S5 : ∀ t, Steps p.tables e below (s₁.setTop (mkF m 15 #[.val (.ref rc)] [(.ref rc)])) t → Steps p.tables e below (s₁.setTop (entryFrame m #[(.ref rc)] 1)) t := fun t kt => by
    refine S3 t ?_
    show Steps p.tables e below (s₁.setTop (mkF m 2 #[.val (.ref rc)] [(.int (0 : Int32))])) t
    refine XS.ifYes X0.here hx rfl (pc0 := 2) (pc' := 14) rfl (hb hby own_d14_2) rfl ((if0 _ _).trans (flt hc2_4).2.2.2) (by decide) (by decide) ?_
    refine XS.aloadN X0.here hx rfl (hb hby own_d14_14) rfl rfl ?_
    exact kt
  obtain ⟨cl6, Ar6, -, Sz6, Nn6, -, -⟩ := id V_r
  have S7 : ∀ t, Steps p.tables e below (s₁.setTop (mkF m 17 #[.val (.ref rc)] [(.int (1 : Int32)), (.int (0 : Int32))])) t → Steps p.tables e below (s₁.setTop (entryFrame m #[(.ref rc)] 1)) t := fun t kt => by
    refine S5 t ?_
    show Steps p.tables e below (s₁.setTop (mkF m 15 #[.val (.ref rc)] [(.ref rc)])) t
    refine X0.arraylength hx (by rw [e0]; exact Ar6.1) (State.isArrayOf_alike hZ.alike Ar6.2.1) (g := (mkF m 15 #[.val (.ref rc)] [(.ref rc)])) rfl rfl (hb hby own_d14_15) _ ?_
    rw [len_of Sz6 Nn6]
    show Steps p.tables e below (s₁.setTop (mkF m 16 #[.val (.ref rc)] [(.int (0 : Int32))])) t
    refine XS.iconst X0.here hx rfl (hb hby own_d14_16) ?_
    exact kt
  have hc17_8 : ¬ ((1 : Int32) < (0 : Int32)) := by decide
  have S9 : ∀ t, Steps p.tables e below (s₁.setTop (mkF m 30 #[.val (.ref rc)] [(.ref rc)])) t → Steps p.tables e below (s₁.setTop (entryFrame m #[(.ref rc)] 1)) t := fun t kt => by
    refine S7 t ?_
    show Steps p.tables e below (s₁.setTop (mkF m 17 #[.val (.ref rc)] [(.int (1 : Int32)), (.int (0 : Int32))])) t
    refine XS.icmpYes X0.here hx rfl (pc0 := 17) (pc' := 29) rfl (hb hby own_d14_17) rfl (flt hc17_8).2.2.2 (by decide) (by decide) ?_
    refine XS.aloadN X0.here hx rfl (hb hby own_d14_29) rfl rfl ?_
    exact kt
  obtain ⟨cl10, Ar10, -, Sz10, Nn10, -, -⟩ := id V_r
  have S11 : ∀ t, Steps p.tables e below (s₁.setTop (mkF m 32 #[.val (.ref rc)] [(.int (2 : Int32)), (.int (0 : Int32))])) t → Steps p.tables e below (s₁.setTop (entryFrame m #[(.ref rc)] 1)) t := fun t kt => by
    refine S9 t ?_
    show Steps p.tables e below (s₁.setTop (mkF m 30 #[.val (.ref rc)] [(.ref rc)])) t
    refine X0.arraylength hx (by rw [e0]; exact Ar10.1) (State.isArrayOf_alike hZ.alike Ar10.2.1) (g := (mkF m 30 #[.val (.ref rc)] [(.ref rc)])) rfl rfl (hb hby own_d14_30) _ ?_
    rw [len_of Sz10 Nn10]
    show Steps p.tables e below (s₁.setTop (mkF m 31 #[.val (.ref rc)] [(.int (0 : Int32))])) t
    refine XS.iconst X0.here hx rfl (hb hby own_d14_31) ?_
    exact kt
  have hc32_12 : ¬ ((2 : Int32) < (0 : Int32)) := by decide
  have S13 : ∀ t, Steps p.tables e below (s₁.setTop (mkF m 44 #[.val (.ref rc)] [])) t → Steps p.tables e below (s₁.setTop (entryFrame m #[(.ref rc)] 1)) t := fun t kt => by
    refine S11 t ?_
    show Steps p.tables e below (s₁.setTop (mkF m 32 #[.val (.ref rc)] [(.int (2 : Int32)), (.int (0 : Int32))])) t
    refine XS.icmpYes X0.here hx rfl (pc0 := 32) (pc' := 44) rfl (hb hby own_d14_32) rfl (flt hc32_12).2.2.2 (by decide) (by decide) ?_
    exact kt
  obtain ⟨fs, hr, hrun, hended, hW, hsame⟩ := X0.leave (v := none) (fun _ => rfl)
  refine ⟨_, _, S13 _ ?_, hrun, hended, _, _, rfl, ?_, ⟨_, rfl⟩, hW, hsame.mono (by decide) (by decide)⟩
  · show Steps p.tables e below (s₁.setTop (mkF m 44 #[.val (.ref rc)] [])) _
    exact X0.returnOut hx Bd.returns (hb hby own_d14_44) hr
  · show own_Q14n0 Z rc kr h0 n0 _ s₁.heap _
    rw [e0]
    exact ⟨rfl, N0, (Keep.refl h0 [rc])⟩
theorem own_ef7n1 (m : MethodId) (x0 : Addr) (x1 : Addr) : entryFrame m #[(.ref x0), (.ref x1)] 2 = mkF m 0 #[.val (.ref x0), .val (.ref x1)] [] := by first | (simp [entryFrame, mkF, argsToLocals, Value.category]; done) | rfl
def own_Q7n1 (Z : State) (ky : Addr) (rc : Addr) (u0 : Int32) (kr : ClassId) (h0 : Heap) (n0 : Nat) (v : Option Value) (h : Heap) (L : List Loc) : Prop := ∃ (r tb : Addr), v = some (.ref r) ∧ Fr n0 L ∧ n0 ≤ tb ∧ h0.size ≤ tb ∧ Keep h0 h [] ∧ Exa Z h r "com/example/nestwarden/nestwarden/store/Journal$Change" ∧ Fld Z h r "com/example/nestwarden/nestwarden/store/Journal$Change" "key" "Ljava/lang/String;" (.ref ky) ∧ Fld Z h r "com/example/nestwarden/nestwarden/store/Journal$Change" "record" "[B" (.ref tb) ∧ Arv Z h tb kr .byte (1 : Int32) [(.int u0)] (.int (0 : Int32))
set_option maxHeartbeats 40000000 in
theorem own_rm7n1 (l : Launch) (Z : State) (a0 : Array Value) (hw : ∀ d ∈ tables_1, d.before a0 Z = true) (ws : List Jvm.Cond) (ky : Addr) (rc : Addr) (u0 : Int32) (kr : ClassId) (h0 : Heap) (n0 : Nat) (Z0 : n0 ≤ h0.size) (V_r : Arv Z h0 rc kr .byte (1 : Int32) [(.int u0)] (.int (0 : Int32))) (E_r : Exa Z h0 rc "[B") :
    MetFree l (⟨"com/example/nestwarden/nestwarden/store/Journal$Change", "keep", "(Ljava/lang/String;[B)Lcom/example/nestwarden/nestwarden/store/Journal$Change;"⟩ : MethodName) (head1 (Jvm.Cond.code (⟨"com/example/nestwarden/nestwarden/store/Journal$Change", "keep", "(Ljava/lang/String;[B)Lcom/example/nestwarden/nestwarden/store/Journal$Change;"⟩ : MethodName) prog_49_method_2_code 2 (some (.object "com/example/nestwarden/nestwarden/store/Journal$Change")) :: ws) ({ frames := 3, cells := 2, slots := 3, locals := 39 } : Room)) (fun argv U => argv = #[(.ref ky), (.ref rc)] ∧ Z.Warmed39 U.vm ∧ U.heap = h0) (fun _ _ _ _ _ => True) (fun _ U o U' => ∃ v L, o = .returned v ∧ own_Q7n1 Z ky rc u0 kr h0 n0 v U'.heap L ∧ FrameEnd U o U' L ({ frames := 3, cells := 2, slots := 3, locals := 39 } : Room).cells ({ frames := 3, cells := 2, slots := 3, locals := 39 } : Room).slots) := by
  refine MetFree.of_bodySF (plainFor_of_name own_pn1) hisR ?_
  intro p e s m args below meth c s₁ Bd hml0 hP hK
  obtain ⟨rfl, hZ, hh⟩ := hP
  have hx := Bd.exec
  have hby := Bd.bytes
  have hml : c.maxLocals = 2 := hml0
  have hown : s.vm.findClass "com/example/nestwarden/nestwarden/store/Journal$Change" = some m.cls := findClass_of_methodNamed Bd.named
  have hnm := (name_of_methodNamed Bd.named Bd.method).1
  have X0 : Stand p l e ({ frames := 3, cells := 2, slots := 3, locals := 39 } : Room) s m #[(.ref ky), (.ref rc)] below meth c s₁ [] 0 0 := Stand.of_body Bd
  have e0 : s₁.heap = h0 := by rw [← hh, Bd.state]; rfl
  have N0 := Fr.nil n0
  have pre0 : ∀ t, Steps p.tables e below (s₁.setTop (mkF m 0 #[.val (.ref ky), .val (.ref rc)] [])) t → Steps p.tables e below (s₁.setTop (entryFrame m #[(.ref ky), (.ref rc)] 2)) t := fun t k => castTop (own_ef7n1 m ky rc) k
  obtain ⟨T1, h1, X1, e1, E1, A1, D1, -, st1⟩ := newO X0 hx hZ hown (hw _ (List.mem_of_getElem? (i := 34) rfl)) (hw _ (List.mem_of_getElem? (i := 35) rfl)) (hw _ (List.mem_of_getElem? (i := 32) rfl)) e0 (g := (mkF m 0 #[.val (.ref ky), .val (.ref rc)] [])) rfl (hb hby own_d7_0) (by decide) (by decide)
  obtain ⟨b1, g1⟩ : ∃ z, z = h0.size := ⟨_, rfl⟩
  rw [← g1] at A1 D1 st1
  have S2 : ∀ t, Steps p.tables e below (T1.setTop (mkF m 3 #[.val (.ref ky), .val (.ref rc)] [(.ref b1)])) t → Steps p.tables e below (s₁.setTop (entryFrame m #[(.ref ky), (.ref rc)] 2)) t := fun t kt => pre0 t (st1 _ kt)
  have g_b1 : n0 ≤ b1 := Nat.le_trans Z0 (Nat.le_of_eq g1.symm)
  have sz_b1 : h0.size ≤ b1 := Nat.le_trans (Keep.refl h0 []).1 (Nat.le_of_eq g1.symm)
  have ne_rc_b1 : rc ≠ b1 := Nat.ne_of_lt (Nat.lt_of_lt_of_le V_r.lt (Nat.le_of_eq g1.symm))
  have F3 := V_r.ext E1
  have F4 := E_r.ext E1
  have K5 : Keep h0 h1 [] := (Keep.refl h0 []).ext E1
  have F6 : Fld Z h1 b1 "com/example/nestwarden/nestwarden/store/Journal$Change" "key" "Ljava/lang/String;" .null := D1 (Or.inr (hw _ (List.mem_of_getElem? (i := 55) rfl))) (ty := (.object "java/lang/String")) (by decide)
  have F7 : Fld Z h1 b1 "com/example/nestwarden/nestwarden/store/Journal$Change" "record" "[B" .null := D1 (Or.inr (hw _ (List.mem_of_getElem? (i := 57) rfl))) (ty := (.array .byte)) (by decide)
  have S8 : ∀ t, Steps p.tables e below (T1.setTop (mkF m 6 #[.val (.ref ky), .val (.ref rc)] [(.ref rc), (.ref ky), (.ref b1), (.ref b1)])) t → Steps p.tables e below (s₁.setTop (entryFrame m #[(.ref ky), (.ref rc)] 2)) t := fun t kt => by
    refine S2 t ?_
    show Steps p.tables e below (T1.setTop (mkF m 3 #[.val (.ref ky), .val (.ref rc)] [(.ref b1)])) t
    refine XS.dup X1.here hx rfl (hb hby own_d7_3) rfl rfl ?_
    refine XS.aloadN X1.here hx rfl (hb hby own_d7_4) rfl rfl ?_
    refine XS.aloadN X1.here hx rfl (hb hby own_d7_5) rfl rfl ?_
    exact kt
  obtain ⟨T9, h9, X9, e9, E9, A9, AE9, st9⟩ := cloneH X1 hx hZ hown (hw _ (List.mem_of_getElem? (i := 36) rfl)) (hw _ (List.mem_of_getElem? (i := 37) rfl)) (hw _ (List.mem_of_getElem? (i := 41) rfl)) (hw _ (List.mem_of_getElem? (i := 39) rfl)) (hw _ (List.mem_of_getElem? (i := 40) rfl)) (hw _ (List.mem_of_getElem? (i := 42) rfl)) e1 (Arv.arh F3) F4 (g := (mkF m 6 #[.val (.ref ky), .val (.ref rc)] [(.ref rc), (.ref ky), (.ref b1), (.ref b1)])) rfl (by rw [hml]; rfl) rfl (hb hby own_d7_6) (by decide) (W := 3) (cap := 1) (by show 2 * 0 + _ ≤ _; exact Nat.le_of_eq rfl) (by decide) (by decide) (by decide) (by decide)
  obtain ⟨b9, g9⟩ : ∃ z, z = h1.size := ⟨_, rfl⟩
  rw [← g9] at A9 AE9 st9
  have V9 : Arv Z h9 b9 kr .byte (1 : Int32) [(.int u0)] (.int (0 : Int32)) := A9
  have S10 : ∀ t, Steps p.tables e below (T9.setTop (mkF m 9 #[.val (.ref ky), .val (.ref rc)] [(.ref b9), (.ref ky), (.ref b1), (.ref b1)])) t → Steps p.tables e below (s₁.setTop (entryFrame m #[(.ref ky), (.ref rc)] 2)) t := fun t kt => S8 t (st9 _ kt)
  have g_b9 : n0 ≤ b9 := Nat.le_trans (Nat.le_trans Z0 K5.1) (Nat.le_of_eq g9.symm)
  have sz_b9 : h0.size ≤ b9 := Nat.le_trans K5.1 (Nat.le_of_eq g9.symm)
  have ne_rc_b9 : rc ≠ b9 := Nat.ne_of_lt (Nat.lt_of_lt_of_le F3.lt (Nat.le_of_eq g9.symm))
  have ne_b1_b9 : b1 ≠ b9 := Nat.ne_of_lt (Nat.lt_of_lt_of_le A1.lt (Nat.le_of_eq g9.symm))
  have F11 := F3.ext E9
  have F12 := F4.ext E9
  have F13 := A1.ext E9
  have F14 := F6.ext E9
  have F15 := F7.ext E9
  have K16 : Keep h0 h9 [] := K5.ext E9
  obtain ⟨T17, X17, e17, st17⟩ := castY X9 hx hZ hown (hw _ (List.mem_of_getElem? (i := 43) rfl)) e9 (Ins.self AE9) (g := (mkF m 9 #[.val (.ref ky), .val (.ref rc)] [(.ref b9), (.ref ky), (.ref b1), (.ref b1)])) rfl rfl (hb hby own_d7_9)
  have S18 : ∀ t, Steps p.tables e below (T17.setTop (mkF m 12 #[.val (.ref ky), .val (.ref rc)] [(.ref b9), (.ref ky), (.ref b1), (.ref b1)])) t → Steps p.tables e below (s₁.setTop (entryFrame m #[(.ref ky), (.ref rc)] 2)) t := fun t kt => S10 t (st17 _ kt)
  obtain ⟨_, _, ⟨T21, L21, k21, n21⟩, -, X21, ⟨Lc21, hQ21, l21, y21, z21⟩, st21⟩ := X17.specialBack hx (y := (⟨"com/example/nestwarden/nestwarden/store/Journal$Change", "<init>", "(Ljava/lang/String;[B)V"⟩ : MethodName)) rfl hown (mvT hZ (hw _ (List.mem_of_getElem? (i := 45) rfl))) (mvT hZ (hw _ (List.mem_of_getElem? (i := 46) rfl))) (mvT hZ (hw _ (List.mem_of_getElem? (i := 47) rfl))) (by decide) (backOf (W := 1) (own_rm8 l Z a0 hw [] (b1) (ky) (b9) (.null) (.null) h9 n0 (Nat.le_trans Z0 K16.1) F13 g_b1 F14 F15) hZ (hw _ (List.mem_of_getElem? (i := 47) rfl)) (hw _ (List.mem_of_getElem? (i := 32) rfl)) (by decide) (by decide)) (g := (mkF m 12 #[.val (.ref ky), .val (.ref rc)] [(.ref b9), (.ref ky), (.ref b1), (.ref b1)])) rfl (by rw [hml]; rfl) (Steps.refl _) (a := b1) (argsL := [(.ref ky), (.ref b9)]) (rest := [(.ref b1)]) (lenOf own_pd5 rfl) rfl (by show 2 * 0 + _ ≤ _; exact Nat.le_of_eq rfl) (hb hby own_d7_12) (fun _ _ => ⟨rfl, e17, (by decide : 2 + 0 ≤ _), (by decide : 3 + 0 ≤ _)⟩)
  dsimp only [Pt.U, Pt.locs, Pt.cells, Pt.slots] at X21 l21 y21 z21 st21 hQ21
  subst l21 y21 z21
  obtain ⟨rfl, Nq21, Kc19, Ec19, Fc19_key, Fc19_record⟩ := hQ21
  have N22 := Fr.app N0 Nq21
  have S23 : ∀ t, Steps p.tables e below (T21.setTop (mkF m 15 #[.val (.ref ky), .val (.ref rc)] [(.ref b1)])) t → Steps p.tables e below (s₁.setTop (entryFrame m #[(.ref ky), (.ref rc)] 2)) t := fun t kt => S18 t (st21.trans kt)
  have F24 := F11.keep Kc19 (ninS ne_rc_b1 nin0)
  have F25 := F12.keep Kc19
  have F26 := F13.keep Kc19
  have F27 := V9.keep Kc19 (ninS (Ne.symm ne_b1_b9) nin0)
  have F28 := AE9.keep Kc19
  have K29 : Keep h0 T21.heap [] := K16.trans Kc19 (allS (Or.inr sz_b1) all0)
  obtain ⟨fs, hr, hrun, hended, hW, hsame⟩ := X21.leave (v := some (.ref b1)) (fun h => by rw [Bd.returns] at h; cases h)
  refine ⟨_, _, S23 _ ?_, hrun, hended, _, _, rfl, ?_, ⟨_, rfl⟩, hW, hsame.mono (by decide) (by decide)⟩
  · show Steps p.tables e below (T21.setTop (mkF m 15 #[.val (.ref ky), .val (.ref rc)] [(.ref b1)])) _
    jvm_step X21.here [X21.here.top, hx, (hb hby own_d7_15), X21.method', Bd.returns, Value.isRef, FieldType.isReference]
    first | (intro acts; rw [hr _ acts rfl rfl rfl]) | rw [hr _ _ rfl rfl rfl]
    exact Steps.refl _
  · show own_Q7n1 Z ky rc u0 kr h0 n0 _ T21.heap _
    exact ⟨b1, b9, rfl, N22, g_b9, sz_b9, K29, F26, Fc19_key, Fc19_record, F27⟩
theorem own_d13_5 : decode method_3_code 5 = .ok (.aload_n 0, 1) := by decide +kernel
theorem own_d13_6 : decode method_3_code 6 = .ok (.iconst 0, 1) := by decide +kernel
theorem own_d13_7 : decode method_3_code 7 = .ok (.baload, 1) := by decide +kernel
theorem own_d13_8 : decode method_3_code 8 = .ok (.iload_n 1, 1) := by decide +kernel
theorem own_d13_9 : decode method_3_code 9 = .ok (.if_icmp .eq 5, 3) := by decide +kernel
theorem own_ef13n1 (m : MethodId) (x0 : Addr) (x1 : Int32) (x2 : Int32) (x3 : Int32) : entryFrame m #[(.ref x0), (.int x1), (.int x2), (.int x3)] 4 = mkF m 0 #[.val (.ref x0), .val (.int x1), .val (.int x2), .val (.int x3)] [] := by first | (simp [entryFrame, mkF, argsToLocals, Value.category]; done) | rfl
def own_Q13n1 (Z : State) (rc : Addr) (b0 : Int32) (b1 : Int32) (b2 : Int32) (u0 : Int32) (kr : ClassId) (h0 : Heap) (n0 : Nat) (v : Option Value) (h : Heap) (L : List Loc) : Prop := v = some (.int (1 : Int32)) ∧ L = [] ∧ h = h0
set_option maxHeartbeats 40000000 in
theorem own_rm13n1 (l : Launch) (Z : State) (a0 : Array Value) (hw : ∀ d ∈ tables_1, d.before a0 Z = true) (ws : List Jvm.Cond) (rc : Addr) (b0 : Int32) (b1 : Int32) (b2 : Int32) (u0 : Int32) (kr : ClassId) (h0 : Heap) (n0 : Nat) (Z0 : n0 ≤ h0.size) (V_r : Arv Z h0 rc kr .byte (1 : Int32) [(.int u0)] (.int (0 : Int32))) (he0 : u0 = b0) :
    MetFree l (⟨"com/example/nestwarden/nestwarden/store/ChangeKeepPinLaw", "same", "([BBBB)Z"⟩ : MethodName) (head1 (Jvm.Cond.code (⟨"com/example/nestwarden/nestwarden/store/ChangeKeepPinLaw", "same", "([BBBB)Z"⟩ : MethodName) method_3_code 4 (some .boolean) :: ws) ({ frames := 0, cells := 0, slots := 0, locals := 0 } : Room)) (fun argv U => argv = #[(.ref rc), (.int b0), (.int b1), (.int b2)] ∧ Z.Warmed39 U.vm ∧ U.heap = h0) (fun _ _ _ _ _ => True) (fun _ U o U' => ∃ v L, o = .returned v ∧ own_Q13n1 Z rc b0 b1 b2 u0 kr h0 n0 v U'.heap L ∧ FrameEnd U o U' L ({ frames := 0, cells := 0, slots := 0, locals := 0 } : Room).cells ({ frames := 0, cells := 0, slots := 0, locals := 0 } : Room).slots) := by
  refine MetFree.of_bodySF (plainFor_of_name own_pn4) hisR ?_
  intro p e s m args below meth c s₁ Bd hml0 hP hK
  obtain ⟨rfl, hZ, hh⟩ := hP
  have hx := Bd.exec
  have hby := Bd.bytes
  have hml : c.maxLocals = 4 := hml0
  have hown : s.vm.findClass "com/example/nestwarden/nestwarden/store/ChangeKeepPinLaw" = some m.cls := findClass_of_methodNamed Bd.named
  have hnm := (name_of_methodNamed Bd.named Bd.method).1
  have X0 : Stand p l e ({ frames := 0, cells := 0, slots := 0, locals := 0 } : Room) s m #[(.ref rc), (.int b0), (.int b1), (.int b2)] below meth c s₁ [] 0 0 := Stand.of_body Bd
  have e0 : s₁.heap = h0 := by rw [← hh, Bd.state]; rfl
  have N0 := Fr.nil n0
  have pre0 : ∀ t, Steps p.tables e below (s₁.setTop (mkF m 0 #[.val (.ref rc), .val (.int b0), .val (.int b1), .val (.int b2)] [])) t → Steps p.tables e below (s₁.setTop (entryFrame m #[(.ref rc), (.int b0), (.int b1), (.int b2)] 4)) t := fun t k => castTop (own_ef13n1 m rc b0 b1 b2) k
  have S1 : ∀ t, Steps p.tables e below (s₁.setTop (mkF m 1 #[.val (.ref rc), .val (.int b0), .val (.int b1), .val (.int b2)] [(.ref rc)])) t → Steps p.tables e below (s₁.setTop (entryFrame m #[(.ref rc), (.int b0), (.int b1), (.int b2)] 4)) t := fun t kt => by
    refine pre0 t ?_
    show Steps p.tables e below (s₁.setTop (mkF m 0 #[.val (.ref rc), .val (.int b0), .val (.int b1), .val (.int b2)] [])) t
    refine XS.aloadN X0.here hx rfl (hb hby own_d13_0) rfl rfl ?_
    exact kt
  obtain ⟨cl2, Ar2, -, Sz2, Nn2, -, -⟩ := id V_r
  have S3 : ∀ t, Steps p.tables e below (s₁.setTop (mkF m 2 #[.val (.ref rc), .val (.int b0), .val (.int b1), .val (.int b2)] [(.int (1 : Int32))])) t → Steps p.tables e below (s₁.setTop (entryFrame m #[(.ref rc), (.int b0), (.int b1), (.int b2)] 4)) t := fun t kt => by
    refine S1 t ?_
    show Steps p.tables e below (s₁.setTop (mkF m 1 #[.val (.ref rc), .val (.int b0), .val (.int b1), .val (.int b2)] [(.ref rc)])) t
    refine X0.arraylength hx (by rw [e0]; exact Ar2.1) (State.isArrayOf_alike hZ.alike Ar2.2.1) (g := (mkF m 1 #[.val (.ref rc), .val (.int b0), .val (.int b1), .val (.int b2)] [(.ref rc)])) rfl rfl (hb hby own_d13_1) _ ?_
    rw [len_of Sz2 Nn2]
    exact kt
  have hc2_4 : (0 : Int32) < (1 : Int32) := by decide
  have S6 : ∀ t, Steps p.tables e below (s₁.setTop (mkF m 7 #[.val (.ref rc), .val (.int b0), .val (.int b1), .val (.int b2)] [(.int (0 : Int32)), (.ref rc)])) t → Steps p.tables e below (s₁.setTop (entryFrame m #[(.ref rc), (.int b0), (.int b1), (.int b2)] 4)) t := fun t kt => by
    refine S3 t ?_
    show Steps p.tables e below (s₁.setTop (mkF m 2 #[.val (.ref rc), .val (.int b0), .val (.int b1), .val (.int b2)] [(.int (1 : Int32))])) t
    refine XS.ifNo X0.here hx rfl (hb hby own_d13_2) rfl ((if0 _ _).trans (tlt hc2_4).2.2.2) ?_
    refine XS.aloadN X0.here hx rfl (hb hby own_d13_5) rfl rfl ?_
    refine XS.iconst X0.here hx rfl (hb hby own_d13_6) ?_
    exact kt
  obtain ⟨cl5, Ar5, -, Sz5, Nn5, Hh5, -⟩ := id V_r
  have hin5 : ¬ ((0 : Int32) < 0 ∨ cl5.slots.size ≤ ((0 : Int32)).toNatClampNeg) := inb_of Sz5 ⟨by decide, by decide⟩
  have S7 : ∀ t, Steps p.tables e below (s₁.setTop (mkF m 9 #[.val (.ref rc), .val (.int b0), .val (.int b1), .val (.int b2)] [(.int b0), (.int u0)])) t → Steps p.tables e below (s₁.setTop (entryFrame m #[(.ref rc), (.int b0), (.int b1), (.int b2)] 4)) t := fun t kt => by
    refine S6 t ?_
    show Steps p.tables e below (s₁.setTop (mkF m 7 #[.val (.ref rc), .val (.int b0), .val (.int b1), .val (.int b2)] [(.int (0 : Int32)), (.ref rc)])) t
    refine X0.baloadBytes hx (j := (0 : Int32)) (v := (.int u0)) (by rw [e0]; exact Ar5.1) (State.isArrayOf_alike hZ.alike Ar5.2.1) Ar5.2.2 hin5 (Has.at Hh5 hin5 rfl) (g := (mkF m 7 #[.val (.ref rc), .val (.int b0), .val (.int b1), .val (.int b2)] [(.int (0 : Int32)), (.ref rc)])) rfl rfl (hb hby own_d13_7) _ ?_
    show Steps p.tables e below (s₁.setTop (mkF m 8 #[.val (.ref rc), .val (.int b0), .val (.int b1), .val (.int b2)] [(.int u0)])) t
    refine XS.iloadN X0.here hx rfl (hb hby own_d13_8) rfl ?_
    exact kt
  have hc9_8 : u0 = b0 := he0
  have S9 : ∀ t, Steps p.tables e below (s₁.setTop (mkF m 15 #[.val (.ref rc), .val (.int b0), .val (.int b1), .val (.int b2)] [(.ref rc)])) t → Steps p.tables e below (s₁.setTop (entryFrame m #[(.ref rc), (.int b0), (.int b1), (.int b2)] 4)) t := fun t kt => by
    refine S7 t ?_
    show Steps p.tables e below (s₁.setTop (mkF m 9 #[.val (.ref rc), .val (.int b0), .val (.int b1), .val (.int b2)] [(.int b0), (.int u0)])) t
    refine XS.icmpYes X0.here hx rfl (pc0 := 9) (pc' := 14) rfl (hb hby own_d13_9) rfl (teq hc9_8).1 (by decide) (by decide) ?_
    refine XS.aloadN X0.here hx rfl (hb hby own_d13_14) rfl rfl ?_
    exact kt
  obtain ⟨cl10, Ar10, -, Sz10, Nn10, -, -⟩ := id V_r
  have S11 : ∀ t, Steps p.tables e below (s₁.setTop (mkF m 17 #[.val (.ref rc), .val (.int b0), .val (.int b1), .val (.int b2)] [(.int (1 : Int32)), (.int (1 : Int32))])) t → Steps p.tables e below (s₁.setTop (entryFrame m #[(.ref rc), (.int b0), (.int b1), (.int b2)] 4)) t := fun t kt => by
    refine S9 t ?_
    show Steps p.tables e below (s₁.setTop (mkF m 15 #[.val (.ref rc), .val (.int b0), .val (.int b1), .val (.int b2)] [(.ref rc)])) t
    refine X0.arraylength hx (by rw [e0]; exact Ar10.1) (State.isArrayOf_alike hZ.alike Ar10.2.1) (g := (mkF m 15 #[.val (.ref rc), .val (.int b0), .val (.int b1), .val (.int b2)] [(.ref rc)])) rfl rfl (hb hby own_d13_15) _ ?_
    rw [len_of Sz10 Nn10]
    show Steps p.tables e below (s₁.setTop (mkF m 16 #[.val (.ref rc), .val (.int b0), .val (.int b1), .val (.int b2)] [(.int (1 : Int32))])) t
    refine XS.iconst X0.here hx rfl (hb hby own_d13_16) ?_
    exact kt
  have hc17_12 : ¬ ((1 : Int32) < (1 : Int32)) := by decide
  have S13 : ∀ t, Steps p.tables e below (s₁.setTop (mkF m 30 #[.val (.ref rc), .val (.int b0), .val (.int b1), .val (.int b2)] [(.ref rc)])) t → Steps p.tables e below (s₁.setTop (entryFrame m #[(.ref rc), (.int b0), (.int b1), (.int b2)] 4)) t := fun t kt => by
    refine S11 t ?_
    show Steps p.tables e below (s₁.setTop (mkF m 17 #[.val (.ref rc), .val (.int b0), .val (.int b1), .val (.int b2)] [(.int (1 : Int32)), (.int (1 : Int32))])) t
    refine XS.icmpYes X0.here hx rfl (pc0 := 17) (pc' := 29) rfl (hb hby own_d13_17) rfl (flt hc17_12).2.2.2 (by decide) (by decide) ?_
    refine XS.aloadN X0.here hx rfl (hb hby own_d13_29) rfl rfl ?_
    exact kt
  obtain ⟨cl14, Ar14, -, Sz14, Nn14, -, -⟩ := id V_r
  have S15 : ∀ t, Steps p.tables e below (s₁.setTop (mkF m 32 #[.val (.ref rc), .val (.int b0), .val (.int b1), .val (.int b2)] [(.int (2 : Int32)), (.int (1 : Int32))])) t → Steps p.tables e below (s₁.setTop (entryFrame m #[(.ref rc), (.int b0), (.int b1), (.int b2)] 4)) t := fun t kt => by
    refine S13 t ?_
    show Steps p.tables e below (s₁.setTop (mkF m 30 #[.val (.ref rc), .val (.int b0), .val (.int b1), .val (.int b2)] [(.ref rc)])) t
    refine X0.arraylength hx (by rw [e0]; exact Ar14.1) (State.isArrayOf_alike hZ.alike Ar14.2.1) (g := (mkF m 30 #[.val (.ref rc), .val (.int b0), .val (.int b1), .val (.int b2)] [(.ref rc)])) rfl rfl (hb hby own_d13_30) _ ?_
    rw [len_of Sz14 Nn14]
    show Steps p.tables e below (s₁.setTop (mkF m 31 #[.val (.ref rc), .val (.int b0), .val (.int b1), .val (.int b2)] [(.int (1 : Int32))])) t
    refine XS.iconst X0.here hx rfl (hb hby own_d13_31) ?_
    exact kt
  have hc32_16 : ¬ ((2 : Int32) < (1 : Int32)) := by decide
  have S17 : ∀ t, Steps p.tables e below (s₁.setTop (mkF m 45 #[.val (.ref rc), .val (.int b0), .val (.int b1), .val (.int b2)] [(.int (1 : Int32))])) t → Steps p.tables e below (s₁.setTop (entryFrame m #[(.ref rc), (.int b0), (.int b1), (.int b2)] 4)) t := fun t kt => by
    refine S15 t ?_
    show Steps p.tables e below (s₁.setTop (mkF m 32 #[.val (.ref rc), .val (.int b0), .val (.int b1), .val (.int b2)] [(.int (2 : Int32)), (.int (1 : Int32))])) t
    refine XS.icmpYes X0.here hx rfl (pc0 := 32) (pc' := 44) rfl (hb hby own_d13_32) rfl (flt hc32_16).2.2.2 (by decide) (by decide) ?_
    refine XS.iconst X0.here hx rfl (hb hby own_d13_44) ?_
    exact kt
  obtain ⟨fs, hr, hrun, hended, hW, hsame⟩ := X0.leave (v := some (.int (nar .boolean (1 : Int32)))) (fun h => by rw [Bd.returns] at h; cases h)
  refine ⟨_, _, S17 _ ?_, hrun, hended, _, _, rfl, ?_, ⟨_, rfl⟩, hW, hsame.mono (by decide) (by decide)⟩
  · show Steps p.tables e below (s₁.setTop (mkF m 45 #[.val (.ref rc), .val (.int b0), .val (.int b1), .val (.int b2)] [(.int (1 : Int32))])) _
    exact retN X0 hx (t := .boolean) Bd.returns (by simp) (hb hby own_d13_45) hr
  · show own_Q13n1 Z rc b0 b1 b2 u0 kr h0 n0 _ s₁.heap _
    rw [e0]
    exact ⟨rfl, rfl, rfl⟩
theorem own_d14_5 : decode method_4_code 5 = .ok (.aload_n 0, 1) := by decide +kernel
theorem own_d14_6 : decode method_4_code 6 = .ok (.iconst 0, 1) := by decide +kernel
theorem own_d14_7 : decode method_4_code 7 = .ok (.aload_n 0, 1) := by decide +kernel
theorem own_d14_8 : decode method_4_code 8 = .ok (.iconst 0, 1) := by decide +kernel
theorem own_d14_9 : decode method_4_code 9 = .ok (.baload, 1) := by decide +kernel
theorem own_d14_10 : decode method_4_code 10 = .ok (.iconst (-1), 1) := by decide +kernel
theorem own_d14_11 : decode method_4_code 11 = .ok (.ixor, 1) := by decide +kernel
theorem own_d14_12 : decode method_4_code 12 = .ok (.i2b, 1) := by decide +kernel
theorem own_d14_13 : decode method_4_code 13 = .ok (.bastore, 1) := by decide +kernel
theorem own_ef14n1 (m : MethodId) (x0 : Addr) : entryFrame m #[(.ref x0)] 1 = mkF m 0 #[.val (.ref x0)] [] := by first | (simp [entryFrame, mkF, argsToLocals, Value.category]; done) | rfl
def own_Q14n1 (Z : State) (rc : Addr) (u0 : Int32) (kr : ClassId) (h0 : Heap) (n0 : Nat) (v : Option Value) (h : Heap) (L : List Loc) : Prop := v = none ∧ Fr n0 L ∧ Keep h0 h [rc]
set_option maxHeartbeats 40000000 in
theorem own_rm14n1 (l : Launch) (Z : State) (a0 : Array Value) (hw : ∀ d ∈ tables_1, d.before a0 Z = true) (ws : List Jvm.Cond) (rc : Addr) (u0 : Int32) (kr : ClassId) (h0 : Heap) (n0 : Nat) (Z0 : n0 ≤ h0.size) (V_r : Arv Z h0 rc kr .byte (1 : Int32) [(.int u0)] (.int (0 : Int32))) (g_rc : n0 ≤ rc) :
    MetFree l (⟨"com/example/nestwarden/nestwarden/store/ChangeKeepPinLaw", "flip", "([B)V"⟩ : MethodName) (head1 (Jvm.Cond.code (⟨"com/example/nestwarden/nestwarden/store/ChangeKeepPinLaw", "flip", "([B)V"⟩ : MethodName) method_4_code 1 none :: ws) ({ frames := 0, cells := 0, slots := 0, locals := 0 } : Room)) (fun argv U => argv = #[(.ref rc)] ∧ Z.Warmed39 U.vm ∧ U.heap = h0) (fun _ _ _ _ _ => True) (fun _ U o U' => ∃ v L, o = .returned v ∧ own_Q14n1 Z rc u0 kr h0 n0 v U'.heap L ∧ FrameEnd U o U' L ({ frames := 0, cells := 0, slots := 0, locals := 0 } : Room).cells ({ frames := 0, cells := 0, slots := 0, locals := 0 } : Room).slots) := by
  refine MetFree.of_bodySF (plainFor_of_name own_pn4) hisR ?_
  intro p e s m args below meth c s₁ Bd hml0 hP hK
  obtain ⟨rfl, hZ, hh⟩ := hP
  have hx := Bd.exec
  have hby := Bd.bytes
  have hml : c.maxLocals = 1 := hml0
  have hown : s.vm.findClass "com/example/nestwarden/nestwarden/store/ChangeKeepPinLaw" = some m.cls := findClass_of_methodNamed Bd.named
  have hnm := (name_of_methodNamed Bd.named Bd.method).1
  have X0 : Stand p l e ({ frames := 0, cells := 0, slots := 0, locals := 0 } : Room) s m #[(.ref rc)] below meth c s₁ [] 0 0 := Stand.of_body Bd
  have e0 : s₁.heap = h0 := by rw [← hh, Bd.state]; rfl
  have N0 := Fr.nil n0
  have pre0 : ∀ t, Steps p.tables e below (s₁.setTop (mkF m 0 #[.val (.ref rc)] [])) t → Steps p.tables e below (s₁.setTop (entryFrame m #[(.ref rc)] 1)) t := fun t k => castTop (own_ef14n1 m rc) k
  have S1 : ∀ t, Steps p.tables e below (s₁.setTop (mkF m 1 #[.val (.ref rc)] [(.ref rc)])) t → Steps p.tables e below (s₁.setTop (entryFrame m #[(.ref rc)] 1)) t := fun t kt => by
    refine pre0 t ?_
    show Steps p.tables e below (s₁.setTop (mkF m 0 #[.val (.ref rc)] [])) t
    refine XS.aloadN X0.here hx rfl (hb hby own_d14_0) rfl rfl ?_
    exact kt
  obtain ⟨cl2, Ar2, -, Sz2, Nn2, -, -⟩ := id V_r
  have S3 : ∀ t, Steps p.tables e below (s₁.setTop (mkF m 2 #[.val (.ref rc)] [(.int (1 : Int32))])) t → Steps p.tables e below (s₁.setTop (entryFrame m #[(.ref rc)] 1)) t := fun t kt => by
    refine S1 t ?_
    show Steps p.tables e below (s₁.setTop (mkF m 1 #[.val (.ref rc)] [(.ref rc)])) t
    refine X0.arraylength hx (by rw [e0]; exact Ar2.1) (State.isArrayOf_alike hZ.alike Ar2.2.1) (g := (mkF m 1 #[.val (.ref rc)] [(.ref rc)])) rfl rfl (hb hby own_d14_1) _ ?_
    rw [len_of Sz2 Nn2]
    exact kt
  have hc2_4 : (0 : Int32) < (1 : Int32) := by decide
  have S6 : ∀ t, Steps p.tables e below (s₁.setTop (mkF m 9 #[.val (.ref rc)] [(.int (0 : Int32)), (.ref rc), (.int (0 : Int32)), (.ref rc)])) t → Steps p.tables e below (s₁.setTop (entryFrame m #[(.ref rc)] 1)) t := fun t kt => by
    refine S3 t ?_
    show Steps p.tables e below (s₁.setTop (mkF m 2 #[.val (.ref rc)] [(.int (1 : Int32))])) t
    refine XS.ifNo X0.here hx rfl (hb hby own_d14_2) rfl ((if0 _ _).trans (tlt hc2_4).2.2.2) ?_
    refine XS.aloadN X0.here hx rfl (hb hby own_d14_5) rfl rfl ?_
    refine XS.iconst X0.here hx rfl (hb hby own_d14_6) ?_
    refine XS.aloadN X0.here hx rfl (hb hby own_d14_7) rfl rfl ?_
    refine XS.iconst X0.here hx rfl (hb hby own_d14_8) ?_
    exact kt
  obtain ⟨cl5, Ar5, -, Sz5, Nn5, Hh5, -⟩ := id V_r
  have hin5 : ¬ ((0 : Int32) < 0 ∨ cl5.slots.size ≤ ((0 : Int32)).toNatClampNeg) := inb_of Sz5 ⟨by decide, by decide⟩
  have S7 : ∀ t, Steps p.tables e below (s₁.setTop (mkF m 13 #[.val (.ref rc)] [(.int ((u0 ^^^ (-1 : Int32)).toInt8.toInt32)), (.int (0 : Int32)), (.ref rc)])) t → Steps p.tables e below (s₁.setTop (entryFrame m #[(.ref rc)] 1)) t := fun t kt => by
    refine S6 t ?_
    show Steps p.tables e below (s₁.setTop (mkF m 9 #[.val (.ref rc)] [(.int (0 : Int32)), (.ref rc), (.int (0 : Int32)), (.ref rc)])) t
    refine X0.baloadBytes hx (j := (0 : Int32)) (v := (.int u0)) (by rw [e0]; exact Ar5.1) (State.isArrayOf_alike hZ.alike Ar5.2.1) Ar5.2.2 hin5 (Has.at Hh5 hin5 rfl) (g := (mkF m 9 #[.val (.ref rc)] [(.int (0 : Int32)), (.ref rc), (.int (0 : Int32)), (.ref rc)])) rfl rfl (hb hby own_d14_9) _ ?_
    show Steps p.tables e below (s₁.setTop (mkF m 10 #[.val (.ref rc)] [(.int u0), (.int (0 : Int32)), (.ref rc)])) t
    refine XS.iconst X0.here hx rfl (hb hby own_d14_10) ?_
    refine XS.ixor X0.here hx rfl (hb hby own_d14_11) rfl ?_
    refine XS.i2b X0.here hx rfl (hb hby own_d14_12) rfl ?_
    exact kt
  obtain ⟨cl8, Ar8, q8, Sz8, Nn8, Hh8, Gg8⟩ := id V_r
  have hin8 : ¬ ((0 : Int32) < 0 ∨ cl8.slots.size ≤ ((0 : Int32)).toNatClampNeg) := inb_of Sz8 ⟨by decide, by decide⟩
  obtain ⟨T9, h9, X9, e9, W9, st9⟩ := stB X0 hx hZ e0 Ar8 (j := (0 : Int32)) hin8 (g := (mkF m 13 #[.val (.ref rc)] [(.int ((u0 ^^^ (-1 : Int32)).toInt8.toInt32)), (.int (0 : Int32)), (.ref rc)])) rfl rfl (hb hby own_d14_13)
  have S10 : ∀ t, Steps p.tables e below (T9.setTop (mkF m 14 #[.val (.ref rc)] [])) t → Steps p.tables e below (s₁.setTop (entryFrame m #[(.ref rc)] 1)) t := fun t kt => S7 t (st9 _ kt)
  have V11 := Arv.set Ar8 q8 Sz8 Nn8 Hh8 Gg8 (fits_nar_byte _) W9 0 rfl (Nat.le_of_ble_eq_true rfl)
  have N12 := Fr.snoc X9 N0 g_rc
  have K13 : Keep h0 h9 [rc] := (Keep.refl h0 [rc]).wr W9 (Or.inl (List.mem_of_getElem? (i := 0) rfl))
  have S14 : ∀ t, Steps p.tables e below (T9.setTop (mkF m 15 #[.val (.ref rc)] [(.ref rc)])) t → Steps p.tables e below (s₁.setTop (entryFrame m #[(.ref rc)] 1)) t := fun t kt => by
    refine S10 t ?_
    show Steps p.tables e below (T9.setTop (mkF m 14 #[.val (.ref rc)] [])) t
    refine XS.aloadN X9.here hx rfl (hb hby own_d14_14) rfl rfl ?_
    exact kt
  obtain ⟨cl15, Ar15, -, Sz15, Nn15, -, -⟩ := id V11
  have S16 : ∀ t, Steps p.tables e below (T9.setTop (mkF m 17 #[.val (.ref rc)] [(.int (1 : Int32)), (.int (1 : Int32))])) t → Steps p.tables e below (s₁.setTop (entryFrame m #[(.ref rc)] 1)) t := fun t kt => by
    refine S14 t ?_
    show Steps p.tables e below (T9.setTop (mkF m 15 #[.val (.ref rc)] [(.ref rc)])) t
    refine X9.arraylength hx (by rw [e9]; exact Ar15.1) (State.isArrayOf_alike hZ.alike Ar15.2.1) (g := (mkF m 15 #[.val (.ref rc)] [(.ref rc)])) rfl rfl (hb hby own_d14_15) _ ?_
    rw [len_of Sz15 Nn15]
    show Steps p.tables e below (T9.setTop (mkF m 16 #[.val (.ref rc)] [(.int (1 : Int32))])) t
    refine XS.iconst X9.here hx rfl (hb hby own_d14_16) ?_
    exact kt
  have hc17_17 : ¬ ((1 : Int32) < (1 : Int32)) := by decide
  have S18 : ∀ t, Steps p.tables e below (T9.setTop (mkF m 30 #[.val (.ref rc)] [(.ref rc)])) t → Steps p.tables e below (s₁.setTop (entryFrame m #[(.ref rc)] 1)) t := fun t kt => by
    refine S16 t ?_
    show Steps p.tables e below (T9.setTop (mkF m 17 #[.val (.ref rc)] [(.int (1 : Int32)), (.int (1 : Int32))])) t
    refine XS.icmpYes X9.here hx rfl (pc0 := 17) (pc' := 29) rfl (hb hby own_d14_17) rfl (flt hc17_17).2.2.2 (by decide) (by decide) ?_
    refine XS.aloadN X9.here hx rfl (hb hby own_d14_29) rfl rfl ?_
    exact kt
  obtain ⟨cl19, Ar19, -, Sz19, Nn19, -, -⟩ := id V11
  have S20 : ∀ t, Steps p.tables e below (T9.setTop (mkF m 32 #[.val (.ref rc)] [(.int (2 : Int32)), (.int (1 : Int32))])) t → Steps p.tables e below (s₁.setTop (entryFrame m #[(.ref rc)] 1)) t := fun t kt => by
    refine S18 t ?_
    show Steps p.tables e below (T9.setTop (mkF m 30 #[.val (.ref rc)] [(.ref rc)])) t
    refine X9.arraylength hx (by rw [e9]; exact Ar19.1) (State.isArrayOf_alike hZ.alike Ar19.2.1) (g := (mkF m 30 #[.val (.ref rc)] [(.ref rc)])) rfl rfl (hb hby own_d14_30) _ ?_
    rw [len_of Sz19 Nn19]
    show Steps p.tables e below (T9.setTop (mkF m 31 #[.val (.ref rc)] [(.int (1 : Int32))])) t
    refine XS.iconst X9.here hx rfl (hb hby own_d14_31) ?_
    exact kt
  have hc32_21 : ¬ ((2 : Int32) < (1 : Int32)) := by decide
  have S22 : ∀ t, Steps p.tables e below (T9.setTop (mkF m 44 #[.val (.ref rc)] [])) t → Steps p.tables e below (s₁.setTop (entryFrame m #[(.ref rc)] 1)) t := fun t kt => by
    refine S20 t ?_
    show Steps p.tables e below (T9.setTop (mkF m 32 #[.val (.ref rc)] [(.int (2 : Int32)), (.int (1 : Int32))])) t
    refine XS.icmpYes X9.here hx rfl (pc0 := 32) (pc' := 44) rfl (hb hby own_d14_32) rfl (flt hc32_21).2.2.2 (by decide) (by decide) ?_
    exact kt
  obtain ⟨fs, hr, hrun, hended, hW, hsame⟩ := X9.leave (v := none) (fun _ => rfl)
  refine ⟨_, _, S22 _ ?_, hrun, hended, _, _, rfl, ?_, ⟨_, rfl⟩, hW, hsame.mono (by decide) (by decide)⟩
  · show Steps p.tables e below (T9.setTop (mkF m 44 #[.val (.ref rc)] [])) _
    exact X9.returnOut hx Bd.returns (hb hby own_d14_44) hr
  · show own_Q14n1 Z rc u0 kr h0 n0 _ T9.heap _
    rw [e9]
    exact ⟨rfl, N12, K13⟩
theorem own_ef7n2 (m : MethodId) (x0 : Addr) (x1 : Addr) : entryFrame m #[(.ref x0), (.ref x1)] 2 = mkF m 0 #[.val (.ref x0), .val (.ref x1)] [] := by first | (simp [entryFrame, mkF, argsToLocals, Value.category]; done) | rfl
def own_Q7n2 (Z : State) (ky : Addr) (rc : Addr) (u0 : Int32) (u1 : Int32) (kr : ClassId) (h0 : Heap) (n0 : Nat) (v : Option Value) (h : Heap) (L : List Loc) : Prop := ∃ (r tb : Addr), v = some (.ref r) ∧ Fr n0 L ∧ n0 ≤ tb ∧ h0.size ≤ tb ∧ Keep h0 h [] ∧ Exa Z h r "com/example/nestwarden/nestwarden/store/Journal$Change" ∧ Fld Z h r "com/example/nestwarden/nestwarden/store/Journal$Change" "key" "Ljava/lang/String;" (.ref ky) ∧ Fld Z h r "com/example/nestwarden/nestwarden/store/Journal$Change" "record" "[B" (.ref tb) ∧ Arv Z h tb kr .byte (2 : Int32) [(.int u0), (.int u1)] (.int (0 : Int32))
set_option maxHeartbeats 40000000 in
theorem own_rm7n2 (l : Launch) (Z : State) (a0 : Array Value) (hw : ∀ d ∈ tables_1, d.before a0 Z = true) (ws : List Jvm.Cond) (ky : Addr) (rc : Addr) (u0 : Int32) (u1 : Int32) (kr : ClassId) (h0 : Heap) (n0 : Nat) (Z0 : n0 ≤ h0.size) (V_r : Arv Z h0 rc kr .byte (2 : Int32) [(.int u0), (.int u1)] (.int (0 : Int32))) (E_r : Exa Z h0 rc "[B") :
    MetFree l (⟨"com/example/nestwarden/nestwarden/store/Journal$Change", "keep", "(Ljava/lang/String;[B)Lcom/example/nestwarden/nestwarden/store/Journal$Change;"⟩ : MethodName) (head1 (Jvm.Cond.code (⟨"com/example/nestwarden/nestwarden/store/Journal$Change", "keep", "(Ljava/lang/String;[B)Lcom/example/nestwarden/nestwarden/store/Journal$Change;"⟩ : MethodName) prog_49_method_2_code 2 (some (.object "com/example/nestwarden/nestwarden/store/Journal$Change")) :: ws) ({ frames := 3, cells := 2, slots := 4, locals := 39 } : Room)) (fun argv U => argv = #[(.ref ky), (.ref rc)] ∧ Z.Warmed39 U.vm ∧ U.heap = h0) (fun _ _ _ _ _ => True) (fun _ U o U' => ∃ v L, o = .returned v ∧ own_Q7n2 Z ky rc u0 u1 kr h0 n0 v U'.heap L ∧ FrameEnd U o U' L ({ frames := 3, cells := 2, slots := 4, locals := 39 } : Room).cells ({ frames := 3, cells := 2, slots := 4, locals := 39 } : Room).slots) := by
  refine MetFree.of_bodySF (plainFor_of_name own_pn1) hisR ?_
  intro p e s m args below meth c s₁ Bd hml0 hP hK
  obtain ⟨rfl, hZ, hh⟩ := hP
  have hx := Bd.exec
  have hby := Bd.bytes
  have hml : c.maxLocals = 2 := hml0
  have hown : s.vm.findClass "com/example/nestwarden/nestwarden/store/Journal$Change" = some m.cls := findClass_of_methodNamed Bd.named
  have hnm := (name_of_methodNamed Bd.named Bd.method).1
  have X0 : Stand p l e ({ frames := 3, cells := 2, slots := 4, locals := 39 } : Room) s m #[(.ref ky), (.ref rc)] below meth c s₁ [] 0 0 := Stand.of_body Bd
  have e0 : s₁.heap = h0 := by rw [← hh, Bd.state]; rfl
  have N0 := Fr.nil n0
  have pre0 : ∀ t, Steps p.tables e below (s₁.setTop (mkF m 0 #[.val (.ref ky), .val (.ref rc)] [])) t → Steps p.tables e below (s₁.setTop (entryFrame m #[(.ref ky), (.ref rc)] 2)) t := fun t k => castTop (own_ef7n2 m ky rc) k
  obtain ⟨T1, h1, X1, e1, E1, A1, D1, -, st1⟩ := newO X0 hx hZ hown (hw _ (List.mem_of_getElem? (i := 34) rfl)) (hw _ (List.mem_of_getElem? (i := 35) rfl)) (hw _ (List.mem_of_getElem? (i := 32) rfl)) e0 (g := (mkF m 0 #[.val (.ref ky), .val (.ref rc)] [])) rfl (hb hby own_d7_0) (by decide) (by decide)
  obtain ⟨b1, g1⟩ : ∃ z, z = h0.size := ⟨_, rfl⟩
  rw [← g1] at A1 D1 st1
  have S2 : ∀ t, Steps p.tables e below (T1.setTop (mkF m 3 #[.val (.ref ky), .val (.ref rc)] [(.ref b1)])) t → Steps p.tables e below (s₁.setTop (entryFrame m #[(.ref ky), (.ref rc)] 2)) t := fun t kt => pre0 t (st1 _ kt)
  have g_b1 : n0 ≤ b1 := Nat.le_trans Z0 (Nat.le_of_eq g1.symm)
  have sz_b1 : h0.size ≤ b1 := Nat.le_trans (Keep.refl h0 []).1 (Nat.le_of_eq g1.symm)
  have ne_rc_b1 : rc ≠ b1 := Nat.ne_of_lt (Nat.lt_of_lt_of_le V_r.lt (Nat.le_of_eq g1.symm))
  have F3 := V_r.ext E1
  have F4 := E_r.ext E1
  have K5 : Keep h0 h1 [] := (Keep.refl h0 []).ext E1
  have F6 : Fld Z h1 b1 "com/example/nestwarden/nestwarden/store/Journal$Change" "key" "Ljava/lang/String;" .null := D1 (Or.inr (hw _ (List.mem_of_getElem? (i := 55) rfl))) (ty := (.object "java/lang/String")) (by decide)
  have F7 : Fld Z h1 b1 "com/example/nestwarden/nestwarden/store/Journal$Change" "record" "[B" .null := D1 (Or.inr (hw _ (List.mem_of_getElem? (i := 57) rfl))) (ty := (.array .byte)) (by decide)
  have S8 : ∀ t, Steps p.tables e below (T1.setTop (mkF m 6 #[.val (.ref ky), .val (.ref rc)] [(.ref rc), (.ref ky), (.ref b1), (.ref b1)])) t → Steps p.tables e below (s₁.setTop (entryFrame m #[(.ref ky), (.ref rc)] 2)) t := fun t kt => by
    refine S2 t ?_
    show Steps p.tables e below (T1.setTop (mkF m 3 #[.val (.ref ky), .val (.ref rc)] [(.ref b1)])) t
    refine XS.dup X1.here hx rfl (hb hby own_d7_3) rfl rfl ?_
    refine XS.aloadN X1.here hx rfl (hb hby own_d7_4) rfl rfl ?_
    refine XS.aloadN X1.here hx rfl (hb hby own_d7_5) rfl rfl ?_
    exact kt
  obtain ⟨T9, h9, X9, e9, E9, A9, AE9, st9⟩ := cloneH X1 hx hZ hown (hw _ (List.mem_of_getElem? (i := 36) rfl)) (hw _ (List.mem_of_getElem? (i := 37) rfl)) (hw _ (List.mem_of_getElem? (i := 41) rfl)) (hw _ (List.mem_of_getElem? (i := 39) rfl)) (hw _ (List.mem_of_getElem? (i := 40) rfl)) (hw _ (List.mem_of_getElem? (i := 42) rfl)) e1 (Arv.arh F3) F4 (g := (mkF m 6 #[.val (.ref ky), .val (.ref rc)] [(.ref rc), (.ref ky), (.ref b1), (.ref b1)])) rfl (by rw [hml]; rfl) rfl (hb hby own_d7_6) (by decide) (W := 3) (cap := 2) (by show 2 * 0 + _ ≤ _; exact Nat.le_of_eq rfl) (by decide) (by decide) (by decide) (by decide)
  obtain ⟨b9, g9⟩ : ∃ z, z = h1.size := ⟨_, rfl⟩
  rw [← g9] at A9 AE9 st9
  have V9 : Arv Z h9 b9 kr .byte (2 : Int32) [(.int u0), (.int u1)] (.int (0 : Int32)) := A9
  have S10 : ∀ t, Steps p.tables e below (T9.setTop (mkF m 9 #[.val (.ref ky), .val (.ref rc)] [(.ref b9), (.ref ky), (.ref b1), (.ref b1)])) t → Steps p.tables e below (s₁.setTop (entryFrame m #[(.ref ky), (.ref rc)] 2)) t := fun t kt => S8 t (st9 _ kt)
  have g_b9 : n0 ≤ b9 := Nat.le_trans (Nat.le_trans Z0 K5.1) (Nat.le_of_eq g9.symm)
  have sz_b9 : h0.size ≤ b9 := Nat.le_trans K5.1 (Nat.le_of_eq g9.symm)
  have ne_rc_b9 : rc ≠ b9 := Nat.ne_of_lt (Nat.lt_of_lt_of_le F3.lt (Nat.le_of_eq g9.symm))
  have ne_b1_b9 : b1 ≠ b9 := Nat.ne_of_lt (Nat.lt_of_lt_of_le A1.lt (Nat.le_of_eq g9.symm))
  have F11 := F3.ext E9
  have F12 := F4.ext E9
  have F13 := A1.ext E9
  have F14 := F6.ext E9
  have F15 := F7.ext E9
  have K16 : Keep h0 h9 [] := K5.ext E9
  obtain ⟨T17, X17, e17, st17⟩ := castY X9 hx hZ hown (hw _ (List.mem_of_getElem? (i := 43) rfl)) e9 (Ins.self AE9) (g := (mkF m 9 #[.val (.ref ky), .val (.ref rc)] [(.ref b9), (.ref ky), (.ref b1), (.ref b1)])) rfl rfl (hb hby own_d7_9)
  have S18 : ∀ t, Steps p.tables e below (T17.setTop (mkF m 12 #[.val (.ref ky), .val (.ref rc)] [(.ref b9), (.ref ky), (.ref b1), (.ref b1)])) t → Steps p.tables e below (s₁.setTop (entryFrame m #[(.ref ky), (.ref rc)] 2)) t := fun t kt => S10 t (st17 _ kt)
  obtain ⟨_, _, ⟨T21, L21, k21, n21⟩, -, X21, ⟨Lc21, hQ21, l21, y21, z21⟩, st21⟩ := X17.specialBack hx (y := (⟨"com/example/nestwarden/nestwarden/store/Journal$Change", "<init>", "(Ljava/lang/String;[B)V"⟩ : MethodName)) rfl hown (mvT hZ (hw _ (List.mem_of_getElem? (i := 45) rfl))) (mvT hZ (hw _ (List.mem_of_getElem? (i := 46) rfl))) (mvT hZ (hw _ (List.mem_of_getElem? (i := 47) rfl))) (by decide) (backOf (W := 1) (own_rm8 l Z a0 hw [] (b1) (ky) (b9) (.null) (.null) h9 n0 (Nat.le_trans Z0 K16.1) F13 g_b1 F14 F15) hZ (hw _ (List.mem_of_getElem? (i := 47) rfl)) (hw _ (List.mem_of_getElem? (i := 32) rfl)) (by decide) (by decide)) (g := (mkF m 12 #[.val (.ref ky), .val (.ref rc)] [(.ref b9), (.ref ky), (.ref b1), (.ref b1)])) rfl (by rw [hml]; rfl) (Steps.refl _) (a := b1) (argsL := [(.ref ky), (.ref b9)]) (rest := [(.ref b1)]) (lenOf own_pd5 rfl) rfl (by show 2 * 0 + _ ≤ _; exact Nat.le_of_eq rfl) (hb hby own_d7_12) (fun _ _ => ⟨rfl, e17, (by decide : 2 + 0 ≤ _), (by decide : 4 + 0 ≤ _)⟩)
  dsimp only [Pt.U, Pt.locs, Pt.cells, Pt.slots] at X21 l21 y21 z21 st21 hQ21
  subst l21 y21 z21
  obtain ⟨rfl, Nq21, Kc19, Ec19, Fc19_key, Fc19_record⟩ := hQ21
  have N22 := Fr.app N0 Nq21
  have S23 : ∀ t, Steps p.tables e below (T21.setTop (mkF m 15 #[.val (.ref ky), .val (.ref rc)] [(.ref b1)])) t → Steps p.tables e below (s₁.setTop (entryFrame m #[(.ref ky), (.ref rc)] 2)) t := fun t kt => S18 t (st21.trans kt)
  have F24 := F11.keep Kc19 (ninS ne_rc_b1 nin0)
  have F25 := F12.keep Kc19
  have F26 := F13.keep Kc19
  have F27 := V9.keep Kc19 (ninS (Ne.symm ne_b1_b9) nin0)
  have F28 := AE9.keep Kc19
  have K29 : Keep h0 T21.heap [] := K16.trans Kc19 (allS (Or.inr sz_b1) all0)
  obtain ⟨fs, hr, hrun, hended, hW, hsame⟩ := X21.leave (v := some (.ref b1)) (fun h => by rw [Bd.returns] at h; cases h)
  refine ⟨_, _, S23 _ ?_, hrun, hended, _, _, rfl, ?_, ⟨_, rfl⟩, hW, hsame.mono (by decide) (by decide)⟩
  · show Steps p.tables e below (T21.setTop (mkF m 15 #[.val (.ref ky), .val (.ref rc)] [(.ref b1)])) _
    jvm_step X21.here [X21.here.top, hx, (hb hby own_d7_15), X21.method', Bd.returns, Value.isRef, FieldType.isReference]
    first | (intro acts; rw [hr _ acts rfl rfl rfl]) | rw [hr _ _ rfl rfl rfl]
    exact Steps.refl _
  · show own_Q7n2 Z ky rc u0 u1 kr h0 n0 _ T21.heap _
    exact ⟨b1, b9, rfl, N22, g_b9, sz_b9, K29, F26, Fc19_key, Fc19_record, F27⟩
theorem own_d13_20 : decode method_3_code 20 = .ok (.aload_n 0, 1) := by decide +kernel
theorem own_d13_21 : decode method_3_code 21 = .ok (.iconst 1, 1) := by decide +kernel
theorem own_d13_22 : decode method_3_code 22 = .ok (.baload, 1) := by decide +kernel
theorem own_d13_23 : decode method_3_code 23 = .ok (.iload_n 2, 1) := by decide +kernel
theorem own_d13_24 : decode method_3_code 24 = .ok (.if_icmp .eq 5, 3) := by decide +kernel
theorem own_ef13n2 (m : MethodId) (x0 : Addr) (x1 : Int32) (x2 : Int32) (x3 : Int32) : entryFrame m #[(.ref x0), (.int x1), (.int x2), (.int x3)] 4 = mkF m 0 #[.val (.ref x0), .val (.int x1), .val (.int x2), .val (.int x3)] [] := by first | (simp [entryFrame, mkF, argsToLocals, Value.category]; done) | rfl
def own_Q13n2 (Z : State) (rc : Addr) (b0 : Int32) (b1 : Int32) (b2 : Int32) (u0 : Int32) (u1 : Int32) (kr : ClassId) (h0 : Heap) (n0 : Nat) (v : Option Value) (h : Heap) (L : List Loc) : Prop := v = some (.int (1 : Int32)) ∧ L = [] ∧ h = h0
set_option maxHeartbeats 40000000 in
theorem own_rm13n2 (l : Launch) (Z : State) (a0 : Array Value) (hw : ∀ d ∈ tables_1, d.before a0 Z = true) (ws : List Jvm.Cond) (rc : Addr) (b0 : Int32) (b1 : Int32) (b2 : Int32) (u0 : Int32) (u1 : Int32) (kr : ClassId) (h0 : Heap) (n0 : Nat) (Z0 : n0 ≤ h0.size) (V_r : Arv Z h0 rc kr .byte (2 : Int32) [(.int u0), (.int u1)] (.int (0 : Int32))) (he0 : u0 = b0) (he1 : u1 = b1) :
    MetFree l (⟨"com/example/nestwarden/nestwarden/store/ChangeKeepPinLaw", "same", "([BBBB)Z"⟩ : MethodName) (head1 (Jvm.Cond.code (⟨"com/example/nestwarden/nestwarden/store/ChangeKeepPinLaw", "same", "([BBBB)Z"⟩ : MethodName) method_3_code 4 (some .boolean) :: ws) ({ frames := 0, cells := 0, slots := 0, locals := 0 } : Room)) (fun argv U => argv = #[(.ref rc), (.int b0), (.int b1), (.int b2)] ∧ Z.Warmed39 U.vm ∧ U.heap = h0) (fun _ _ _ _ _ => True) (fun _ U o U' => ∃ v L, o = .returned v ∧ own_Q13n2 Z rc b0 b1 b2 u0 u1 kr h0 n0 v U'.heap L ∧ FrameEnd U o U' L ({ frames := 0, cells := 0, slots := 0, locals := 0 } : Room).cells ({ frames := 0, cells := 0, slots := 0, locals := 0 } : Room).slots) := by
  refine MetFree.of_bodySF (plainFor_of_name own_pn4) hisR ?_
  intro p e s m args below meth c s₁ Bd hml0 hP hK
  obtain ⟨rfl, hZ, hh⟩ := hP
  have hx := Bd.exec
  have hby := Bd.bytes
  have hml : c.maxLocals = 4 := hml0
  have hown : s.vm.findClass "com/example/nestwarden/nestwarden/store/ChangeKeepPinLaw" = some m.cls := findClass_of_methodNamed Bd.named
  have hnm := (name_of_methodNamed Bd.named Bd.method).1
  have X0 : Stand p l e ({ frames := 0, cells := 0, slots := 0, locals := 0 } : Room) s m #[(.ref rc), (.int b0), (.int b1), (.int b2)] below meth c s₁ [] 0 0 := Stand.of_body Bd
  have e0 : s₁.heap = h0 := by rw [← hh, Bd.state]; rfl
  have N0 := Fr.nil n0
  have pre0 : ∀ t, Steps p.tables e below (s₁.setTop (mkF m 0 #[.val (.ref rc), .val (.int b0), .val (.int b1), .val (.int b2)] [])) t → Steps p.tables e below (s₁.setTop (entryFrame m #[(.ref rc), (.int b0), (.int b1), (.int b2)] 4)) t := fun t k => castTop (own_ef13n2 m rc b0 b1 b2) k
  have S1 : ∀ t, Steps p.tables e below (s₁.setTop (mkF m 1 #[.val (.ref rc), .val (.int b0), .val (.int b1), .val (.int b2)] [(.ref rc)])) t → Steps p.tables e below (s₁.setTop (entryFrame m #[(.ref rc), (.int b0), (.int b1), (.int b2)] 4)) t := fun t kt => by
    refine pre0 t ?_
    show Steps p.tables e below (s₁.setTop (mkF m 0 #[.val (.ref rc), .val (.int b0), .val (.int b1), .val (.int b2)] [])) t
    refine XS.aloadN X0.here hx rfl (hb hby own_d13_0) rfl rfl ?_
    exact kt
  obtain ⟨cl2, Ar2, -, Sz2, Nn2, -, -⟩ := id V_r
  have S3 : ∀ t, Steps p.tables e below (s₁.setTop (mkF m 2 #[.val (.ref rc), .val (.int b0), .val (.int b1), .val (.int b2)] [(.int (2 : Int32))])) t → Steps p.tables e below (s₁.setTop (entryFrame m #[(.ref rc), (.int b0), (.int b1), (.int b2)] 4)) t := fun t kt => by
    refine S1 t ?_
    show Steps p.tables e below (s₁.setTop (mkF m 1 #[.val (.ref rc), .val (.int b0), .val (.int b1), .val (.int b2)] [(.ref rc)])) t
    refine X0.arraylength hx (by rw [e0]; exact Ar2.1) (State.isArrayOf_alike hZ.alike Ar2.2.1) (g := (mkF m 1 #[.val (.ref rc), .val (.int b0), .val (.int b1), .val (.int b2)] [(.ref rc)])) rfl rfl (hb hby own_d13_1) _ ?_
    rw [len_of Sz2 Nn2]
    exact kt
  have hc2_4 : (0 : Int32) < (2 : Int32) := by decide
  have S6 : ∀ t, Steps p.tables e below (s₁.setTop (mkF m 7 #[.val (.ref rc), .val (.int b0), .val (.int b1), .val (.int b2)] [(.int (0 : Int32)), (.ref rc)])) t → Steps p.tables e below (s₁.setTop (entryFrame m #[(.ref rc), (.int b0), (.int b1), (.int b2)] 4)) t := fun t kt => by
    refine S3 t ?_
    show Steps p.tables e below (s₁.setTop (mkF m 2 #[.val (.ref rc), .val (.int b0), .val (.int b1), .val (.int b2)] [(.int (2 : Int32))])) t
    refine XS.ifNo X0.here hx rfl (hb hby own_d13_2) rfl ((if0 _ _).trans (tlt hc2_4).2.2.2) ?_
    refine XS.aloadN X0.here hx rfl (hb hby own_d13_5) rfl rfl ?_
    refine XS.iconst X0.here hx rfl (hb hby own_d13_6) ?_
    exact kt
  obtain ⟨cl5, Ar5, -, Sz5, Nn5, Hh5, -⟩ := id V_r
  have hin5 : ¬ ((0 : Int32) < 0 ∨ cl5.slots.size ≤ ((0 : Int32)).toNatClampNeg) := inb_of Sz5 ⟨by decide, by decide⟩
  have S7 : ∀ t, Steps p.tables e below (s₁.setTop (mkF m 9 #[.val (.ref rc), .val (.int b0), .val (.int b1), .val (.int b2)] [(.int b0), (.int u0)])) t → Steps p.tables e below (s₁.setTop (entryFrame m #[(.ref rc), (.int b0), (.int b1), (.int b2)] 4)) t := fun t kt => by
    refine S6 t ?_
    show Steps p.tables e below (s₁.setTop (mkF m 7 #[.val (.ref rc), .val (.int b0), .val (.int b1), .val (.int b2)] [(.int (0 : Int32)), (.ref rc)])) t
    refine X0.baloadBytes hx (j := (0 : Int32)) (v := (.int u0)) (by rw [e0]; exact Ar5.1) (State.isArrayOf_alike hZ.alike Ar5.2.1) Ar5.2.2 hin5 (Has.at Hh5 hin5 rfl) (g := (mkF m 7 #[.val (.ref rc), .val (.int b0), .val (.int b1), .val (.int b2)] [(.int (0 : Int32)), (.ref rc)])) rfl rfl (hb hby own_d13_7) _ ?_
    show Steps p.tables e below (s₁.setTop (mkF m 8 #[.val (.ref rc), .val (.int b0), .val (.int b1), .val (.int b2)] [(.int u0)])) t
    refine XS.iloadN X0.here hx rfl (hb hby own_d13_8) rfl ?_
    exact kt
  have hc9_8 : u0 = b0 := he0
  have S9 : ∀ t, Steps p.tables e below (s₁.setTop (mkF m 15 #[.val (.ref rc), .val (.int b0), .val (.int b1), .val (.int b2)] [(.ref rc)])) t → Steps p.tables e below (s₁.setTop (entryFrame m #[(.ref rc), (.int b0), (.int b1), (.int b2)] 4)) t := fun t kt => by
    refine S7 t ?_
    show Steps p.tables e below (s₁.setTop (mkF m 9 #[.val (.ref rc), .val (.int b0), .val (.int b1), .val (.int b2)] [(.int b0), (.int u0)])) t
    refine XS.icmpYes X0.here hx rfl (pc0 := 9) (pc' := 14) rfl (hb hby own_d13_9) rfl (teq hc9_8).1 (by decide) (by decide) ?_
    refine XS.aloadN X0.here hx rfl (hb hby own_d13_14) rfl rfl ?_
    exact kt
  obtain ⟨cl10, Ar10, -, Sz10, Nn10, -, -⟩ := id V_r
  have S11 : ∀ t, Steps p.tables e below (s₁.setTop (mkF m 17 #[.val (.ref rc), .val (.int b0), .val (.int b1), .val (.int b2)] [(.int (1 : Int32)), (.int (2 : Int32))])) t → Steps p.tables e below (s₁.setTop (entryFrame m #[(.ref rc), (.int b0), (.int b1), (.int b2)] 4)) t := fun t kt => by
    refine S9 t ?_
    show Steps p.tables e below (s₁.setTop (mkF m 15 #[.val (.ref rc), .val (.int b0), .val (.int b1), .val (.int b2)] [(.ref rc)])) t
    refine X0.arraylength hx (by rw [e0]; exact Ar10.1) (State.isArrayOf_alike hZ.alike Ar10.2.1) (g := (mkF m 15 #[.val (.ref rc), .val (.int b0), .val (.int b1), .val (.int b2)] [(.ref rc)])) rfl rfl (hb hby own_d13_15) _ ?_
    rw [len_of Sz10 Nn10]
    show Steps p.tables e below (s₁.setTop (mkF m 16 #[.val (.ref rc), .val (.int b0), .val (.int b1), .val (.int b2)] [(.int (2 : Int32))])) t
    refine XS.iconst X0.here hx rfl (hb hby own_d13_16) ?_
    exact kt
  have hc17_12 : (1 : Int32) < (2 : Int32) := by decide
  have S14 : ∀ t, Steps p.tables e below (s₁.setTop (mkF m 22 #[.val (.ref rc), .val (.int b0), .val (.int b1), .val (.int b2)] [(.int (1 : Int32)), (.ref rc)])) t → Steps p.tables e below (s₁.setTop (entryFrame m #[(.ref rc), (.int b0), (.int b1), (.int b2)] 4)) t := fun t kt => by
    refine S11 t ?_
    show Steps p.tables e below (s₁.setTop (mkF m 17 #[.val (.ref rc), .val (.int b0), .val (.int b1), .val (.int b2)] [(.int (1 : Int32)), (.int (2 : Int32))])) t
    refine XS.icmpNo X0.here hx rfl (hb hby own_d13_17) rfl (tlt hc17_12).2.2.2 ?_
    refine XS.aloadN X0.here hx rfl (hb hby own_d13_20) rfl rfl ?_
    refine XS.iconst X0.here hx rfl (hb hby own_d13_21) ?_
    exact kt
  obtain ⟨cl13, Ar13, -, Sz13, Nn13, Hh13, -⟩ := id V_r
  have hin13 : ¬ ((1 : Int32) < 0 ∨ cl13.slots.size ≤ ((1 : Int32)).toNatClampNeg) := inb_of Sz13 ⟨by decide, by decide⟩
  have S15 : ∀ t, Steps p.tables e below (s₁.setTop (mkF m 24 #[.val (.ref rc), .val (.int b0), .val (.int b1), .val (.int b2)] [(.int b1), (.int u1)])) t → Steps p.tables e below (s₁.setTop (entryFrame m #[(.ref rc), (.int b0), (.int b1), (.int b2)] 4)) t := fun t kt => by
    refine S14 t ?_
    show Steps p.tables e below (s₁.setTop (mkF m 22 #[.val (.ref rc), .val (.int b0), .val (.int b1), .val (.int b2)] [(.int (1 : Int32)), (.ref rc)])) t
    refine X0.baloadBytes hx (j := (1 : Int32)) (v := (.int u1)) (by rw [e0]; exact Ar13.1) (State.isArrayOf_alike hZ.alike Ar13.2.1) Ar13.2.2 hin13 (Has.at Hh13 hin13 rfl) (g := (mkF m 22 #[.val (.ref rc), .val (.int b0), .val (.int b1), .val (.int b2)] [(.int (1 : Int32)), (.ref rc)])) rfl rfl (hb hby own_d13_22) _ ?_
    show Steps p.tables e below (s₁.setTop (mkF m 23 #[.val (.ref rc), .val (.int b0), .val (.int b1), .val (.int b2)] [(.int u1)])) t
    refine XS.iloadN X0.here hx rfl (hb hby own_d13_23) rfl ?_
    exact kt
  have hc24_16 : u1 = b1 := he1
  have S17 : ∀ t, Steps p.tables e below (s₁.setTop (mkF m 30 #[.val (.ref rc), .val (.int b0), .val (.int b1), .val (.int b2)] [(.ref rc)])) t → Steps p.tables e below (s₁.setTop (entryFrame m #[(.ref rc), (.int b0), (.int b1), (.int b2)] 4)) t := fun t kt => by
    refine S15 t ?_
    show Steps p.tables e below (s₁.setTop (mkF m 24 #[.val (.ref rc), .val (.int b0), .val (.int b1), .val (.int b2)] [(.int b1), (.int u1)])) t
    refine XS.icmpYes X0.here hx rfl (pc0 := 24) (pc' := 29) rfl (hb hby own_d13_24) rfl (teq hc24_16).1 (by decide) (by decide) ?_
    refine XS.aloadN X0.here hx rfl (hb hby own_d13_29) rfl rfl ?_
    exact kt
  obtain ⟨cl18, Ar18, -, Sz18, Nn18, -, -⟩ := id V_r
  have S19 : ∀ t, Steps p.tables e below (s₁.setTop (mkF m 32 #[.val (.ref rc), .val (.int b0), .val (.int b1), .val (.int b2)] [(.int (2 : Int32)), (.int (2 : Int32))])) t → Steps p.tables e below (s₁.setTop (entryFrame m #[(.ref rc), (.int b0), (.int b1), (.int b2)] 4)) t := fun t kt => by
    refine S17 t ?_
    show Steps p.tables e below (s₁.setTop (mkF m 30 #[.val (.ref rc), .val (.int b0), .val (.int b1), .val (.int b2)] [(.ref rc)])) t
    refine X0.arraylength hx (by rw [e0]; exact Ar18.1) (State.isArrayOf_alike hZ.alike Ar18.2.1) (g := (mkF m 30 #[.val (.ref rc), .val (.int b0), .val (.int b1), .val (.int b2)] [(.ref rc)])) rfl rfl (hb hby own_d13_30) _ ?_
    rw [len_of Sz18 Nn18]
    show Steps p.tables e below (s₁.setTop (mkF m 31 #[.val (.ref rc), .val (.int b0), .val (.int b1), .val (.int b2)] [(.int (2 : Int32))])) t
    refine XS.iconst X0.here hx rfl (hb hby own_d13_31) ?_
    exact kt
  have hc32_20 : ¬ ((2 : Int32) < (2 : Int32)) := by decide
  have S21 : ∀ t, Steps p.tables e below (s₁.setTop (mkF m 45 #[.val (.ref rc), .val (.int b0), .val (.int b1), .val (.int b2)] [(.int (1 : Int32))])) t → Steps p.tables e below (s₁.setTop (entryFrame m #[(.ref rc), (.int b0), (.int b1), (.int b2)] 4)) t := fun t kt => by
    refine S19 t ?_
    show Steps p.tables e below (s₁.setTop (mkF m 32 #[.val (.ref rc), .val (.int b0), .val (.int b1), .val (.int b2)] [(.int (2 : Int32)), (.int (2 : Int32))])) t
    refine XS.icmpYes X0.here hx rfl (pc0 := 32) (pc' := 44) rfl (hb hby own_d13_32) rfl (flt hc32_20).2.2.2 (by decide) (by decide) ?_
    refine XS.iconst X0.here hx rfl (hb hby own_d13_44) ?_
    exact kt
  obtain ⟨fs, hr, hrun, hended, hW, hsame⟩ := X0.leave (v := some (.int (nar .boolean (1 : Int32)))) (fun h => by rw [Bd.returns] at h; cases h)
  refine ⟨_, _, S21 _ ?_, hrun, hended, _, _, rfl, ?_, ⟨_, rfl⟩, hW, hsame.mono (by decide) (by decide)⟩
  · show Steps p.tables e below (s₁.setTop (mkF m 45 #[.val (.ref rc), .val (.int b0), .val (.int b1), .val (.int b2)] [(.int (1 : Int32))])) _
    exact retN X0 hx (t := .boolean) Bd.returns (by simp) (hb hby own_d13_45) hr
  · show own_Q13n2 Z rc b0 b1 b2 u0 u1 kr h0 n0 _ s₁.heap _
    rw [e0]
    exact ⟨rfl, rfl, rfl⟩
theorem own_d14_20 : decode method_4_code 20 = .ok (.aload_n 0, 1) := by decide +kernel
theorem own_d14_21 : decode method_4_code 21 = .ok (.iconst 1, 1) := by decide +kernel
theorem own_d14_22 : decode method_4_code 22 = .ok (.aload_n 0, 1) := by decide +kernel
theorem own_d14_23 : decode method_4_code 23 = .ok (.iconst 1, 1) := by decide +kernel
theorem own_d14_24 : decode method_4_code 24 = .ok (.baload, 1) := by decide +kernel
theorem own_d14_25 : decode method_4_code 25 = .ok (.iconst (-1), 1) := by decide +kernel
theorem own_d14_26 : decode method_4_code 26 = .ok (.ixor, 1) := by decide +kernel
theorem own_d14_27 : decode method_4_code 27 = .ok (.i2b, 1) := by decide +kernel
theorem own_d14_28 : decode method_4_code 28 = .ok (.bastore, 1) := by decide +kernel
theorem own_ef14n2 (m : MethodId) (x0 : Addr) : entryFrame m #[(.ref x0)] 1 = mkF m 0 #[.val (.ref x0)] [] := by first | (simp [entryFrame, mkF, argsToLocals, Value.category]; done) | rfl
def own_Q14n2 (Z : State) (rc : Addr) (u0 : Int32) (u1 : Int32) (kr : ClassId) (h0 : Heap) (n0 : Nat) (v : Option Value) (h : Heap) (L : List Loc) : Prop := v = none ∧ Fr n0 L ∧ Keep h0 h [rc]
set_option maxHeartbeats 40000000 in
theorem own_rm14n2 (l : Launch) (Z : State) (a0 : Array Value) (hw : ∀ d ∈ tables_1, d.before a0 Z = true) (ws : List Jvm.Cond) (rc : Addr) (u0 : Int32) (u1 : Int32) (kr : ClassId) (h0 : Heap) (n0 : Nat) (Z0 : n0 ≤ h0.size) (V_r : Arv Z h0 rc kr .byte (2 : Int32) [(.int u0), (.int u1)] (.int (0 : Int32))) (g_rc : n0 ≤ rc) :
    MetFree l (⟨"com/example/nestwarden/nestwarden/store/ChangeKeepPinLaw", "flip", "([B)V"⟩ : MethodName) (head1 (Jvm.Cond.code (⟨"com/example/nestwarden/nestwarden/store/ChangeKeepPinLaw", "flip", "([B)V"⟩ : MethodName) method_4_code 1 none :: ws) ({ frames := 0, cells := 0, slots := 0, locals := 0 } : Room)) (fun argv U => argv = #[(.ref rc)] ∧ Z.Warmed39 U.vm ∧ U.heap = h0) (fun _ _ _ _ _ => True) (fun _ U o U' => ∃ v L, o = .returned v ∧ own_Q14n2 Z rc u0 u1 kr h0 n0 v U'.heap L ∧ FrameEnd U o U' L ({ frames := 0, cells := 0, slots := 0, locals := 0 } : Room).cells ({ frames := 0, cells := 0, slots := 0, locals := 0 } : Room).slots) := by
  refine MetFree.of_bodySF (plainFor_of_name own_pn4) hisR ?_
  intro p e s m args below meth c s₁ Bd hml0 hP hK
  obtain ⟨rfl, hZ, hh⟩ := hP
  have hx := Bd.exec
  have hby := Bd.bytes
  have hml : c.maxLocals = 1 := hml0
  have hown : s.vm.findClass "com/example/nestwarden/nestwarden/store/ChangeKeepPinLaw" = some m.cls := findClass_of_methodNamed Bd.named
  have hnm := (name_of_methodNamed Bd.named Bd.method).1
  have X0 : Stand p l e ({ frames := 0, cells := 0, slots := 0, locals := 0 } : Room) s m #[(.ref rc)] below meth c s₁ [] 0 0 := Stand.of_body Bd
  have e0 : s₁.heap = h0 := by rw [← hh, Bd.state]; rfl
  have N0 := Fr.nil n0
  have pre0 : ∀ t, Steps p.tables e below (s₁.setTop (mkF m 0 #[.val (.ref rc)] [])) t → Steps p.tables e below (s₁.setTop (entryFrame m #[(.ref rc)] 1)) t := fun t k => castTop (own_ef14n2 m rc) k
  have S1 : ∀ t, Steps p.tables e below (s₁.setTop (mkF m 1 #[.val (.ref rc)] [(.ref rc)])) t → Steps p.tables e below (s₁.setTop (entryFrame m #[(.ref rc)] 1)) t := fun t kt => by
    refine pre0 t ?_
    show Steps p.tables e below (s₁.setTop (mkF m 0 #[.val (.ref rc)] [])) t
    refine XS.aloadN X0.here hx rfl (hb hby own_d14_0) rfl rfl ?_
    exact kt
  obtain ⟨cl2, Ar2, -, Sz2, Nn2, -, -⟩ := id V_r
  have S3 : ∀ t, Steps p.tables e below (s₁.setTop (mkF m 2 #[.val (.ref rc)] [(.int (2 : Int32))])) t → Steps p.tables e below (s₁.setTop (entryFrame m #[(.ref rc)] 1)) t := fun t kt => by
    refine S1 t ?_
    show Steps p.tables e below (s₁.setTop (mkF m 1 #[.val (.ref rc)] [(.ref rc)])) t
    refine X0.arraylength hx (by rw [e0]; exact Ar2.1) (State.isArrayOf_alike hZ.alike Ar2.2.1) (g := (mkF m 1 #[.val (.ref rc)] [(.ref rc)])) rfl rfl (hb hby own_d14_1) _ ?_
    rw [len_of Sz2 Nn2]
    exact kt
  have hc2_4 : (0 : Int32) < (2 : Int32) := by decide
  have S6 : ∀ t, Steps p.tables e below (s₁.setTop (mkF m 9 #[.val (.ref rc)] [(.int (0 : Int32)), (.ref rc), (.int (0 : Int32)), (.ref rc)])) t → Steps p.tables e below (s₁.setTop (entryFrame m #[(.ref rc)] 1)) t := fun t kt => by
    refine S3 t ?_
    show Steps p.tables e below (s₁.setTop (mkF m 2 #[.val (.ref rc)] [(.int (2 : Int32))])) t
    refine XS.ifNo X0.here hx rfl (hb hby own_d14_2) rfl ((if0 _ _).trans (tlt hc2_4).2.2.2) ?_
    refine XS.aloadN X0.here hx rfl (hb hby own_d14_5) rfl rfl ?_
    refine XS.iconst X0.here hx rfl (hb hby own_d14_6) ?_
    refine XS.aloadN X0.here hx rfl (hb hby own_d14_7) rfl rfl ?_
    refine XS.iconst X0.here hx rfl (hb hby own_d14_8) ?_
    exact kt
  obtain ⟨cl5, Ar5, -, Sz5, Nn5, Hh5, -⟩ := id V_r
  have hin5 : ¬ ((0 : Int32) < 0 ∨ cl5.slots.size ≤ ((0 : Int32)).toNatClampNeg) := inb_of Sz5 ⟨by decide, by decide⟩
  have S7 : ∀ t, Steps p.tables e below (s₁.setTop (mkF m 13 #[.val (.ref rc)] [(.int ((u0 ^^^ (-1 : Int32)).toInt8.toInt32)), (.int (0 : Int32)), (.ref rc)])) t → Steps p.tables e below (s₁.setTop (entryFrame m #[(.ref rc)] 1)) t := fun t kt => by
    refine S6 t ?_
    show Steps p.tables e below (s₁.setTop (mkF m 9 #[.val (.ref rc)] [(.int (0 : Int32)), (.ref rc), (.int (0 : Int32)), (.ref rc)])) t
    refine X0.baloadBytes hx (j := (0 : Int32)) (v := (.int u0)) (by rw [e0]; exact Ar5.1) (State.isArrayOf_alike hZ.alike Ar5.2.1) Ar5.2.2 hin5 (Has.at Hh5 hin5 rfl) (g := (mkF m 9 #[.val (.ref rc)] [(.int (0 : Int32)), (.ref rc), (.int (0 : Int32)), (.ref rc)])) rfl rfl (hb hby own_d14_9) _ ?_
    show Steps p.tables e below (s₁.setTop (mkF m 10 #[.val (.ref rc)] [(.int u0), (.int (0 : Int32)), (.ref rc)])) t
    refine XS.iconst X0.here hx rfl (hb hby own_d14_10) ?_
    refine XS.ixor X0.here hx rfl (hb hby own_d14_11) rfl ?_
    refine XS.i2b X0.here hx rfl (hb hby own_d14_12) rfl ?_
    exact kt
  obtain ⟨cl8, Ar8, q8, Sz8, Nn8, Hh8, Gg8⟩ := id V_r
  have hin8 : ¬ ((0 : Int32) < 0 ∨ cl8.slots.size ≤ ((0 : Int32)).toNatClampNeg) := inb_of Sz8 ⟨by decide, by decide⟩
  obtain ⟨T9, h9, X9, e9, W9, st9⟩ := stB X0 hx hZ e0 Ar8 (j := (0 : Int32)) hin8 (g := (mkF m 13 #[.val (.ref rc)] [(.int ((u0 ^^^ (-1 : Int32)).toInt8.toInt32)), (.int (0 : Int32)), (.ref rc)])) rfl rfl (hb hby own_d14_13)
  have S10 : ∀ t, Steps p.tables e below (T9.setTop (mkF m 14 #[.val (.ref rc)] [])) t → Steps p.tables e below (s₁.setTop (entryFrame m #[(.ref rc)] 1)) t := fun t kt => S7 t (st9 _ kt)
  have V11 := Arv.set Ar8 q8 Sz8 Nn8 Hh8 Gg8 (fits_nar_byte _) W9 0 rfl (Nat.le_of_ble_eq_true rfl)
  have N12 := Fr.snoc X9 N0 g_rc
  have K13 : Keep h0 h9 [rc] := (Keep.refl h0 [rc]).wr W9 (Or.inl (List.mem_of_getElem? (i := 0) rfl))
  have S14 : ∀ t, Steps p.tables e below (T9.setTop (mkF m 15 #[.val (.ref rc)] [(.ref rc)])) t → Steps p.tables e below (s₁.setTop (entryFrame m #[(.ref rc)] 1)) t := fun t kt => by
    refine S10 t ?_
    show Steps p.tables e below (T9.setTop (mkF m 14 #[.val (.ref rc)] [])) t
    refine XS.aloadN X9.here hx rfl (hb hby own_d14_14) rfl rfl ?_
    exact kt
  obtain ⟨cl15, Ar15, -, Sz15, Nn15, -, -⟩ := id V11
  have S16 : ∀ t, Steps p.tables e below (T9.setTop (mkF m 17 #[.val (.ref rc)] [(.int (1 : Int32)), (.int (2 : Int32))])) t → Steps p.tables e below (s₁.setTop (entryFrame m #[(.ref rc)] 1)) t := fun t kt => by
    refine S14 t ?_
    show Steps p.tables e below (T9.setTop (mkF m 15 #[.val (.ref rc)] [(.ref rc)])) t
    refine X9.arraylength hx (by rw [e9]; exact Ar15.1) (State.isArrayOf_alike hZ.alike Ar15.2.1) (g := (mkF m 15 #[.val (.ref rc)] [(.ref rc)])) rfl rfl (hb hby own_d14_15) _ ?_
    rw [len_of Sz15 Nn15]
    show Steps p.tables e below (T9.setTop (mkF m 16 #[.val (.ref rc)] [(.int (2 : Int32))])) t
    refine XS.iconst X9.here hx rfl (hb hby own_d14_16) ?_
    exact kt
  have hc17_17 : (1 : Int32) < (2 : Int32) := by decide
  have S19 : ∀ t, Steps p.tables e below (T9.setTop (mkF m 24 #[.val (.ref rc)] [(.int (1 : Int32)), (.ref rc), (.int (1 : Int32)), (.ref rc)])) t → Steps p.tables e below (s₁.setTop (entryFrame m #[(.ref rc)] 1)) t := fun t kt => by
    refine S16 t ?_
    show Steps p.tables e below (T9.setTop (mkF m 17 #[.val (.ref rc)] [(.int (1 : Int32)), (.int (2 : Int32))])) t
    refine XS.icmpNo X9.here hx rfl (hb hby own_d14_17) rfl (tlt hc17_17).2.2.2 ?_
    refine XS.aloadN X9.here hx rfl (hb hby own_d14_20) rfl rfl ?_
    refine XS.iconst X9.here hx rfl (hb hby own_d14_21) ?_
    refine XS.aloadN X9.here hx rfl (hb hby own_d14_22) rfl rfl ?_
    refine XS.iconst X9.here hx rfl (hb hby own_d14_23) ?_
    exact kt
  obtain ⟨cl18, Ar18, -, Sz18, Nn18, Hh18, -⟩ := id V11
  have hin18 : ¬ ((1 : Int32) < 0 ∨ cl18.slots.size ≤ ((1 : Int32)).toNatClampNeg) := inb_of Sz18 ⟨by decide, by decide⟩
  have S20 : ∀ t, Steps p.tables e below (T9.setTop (mkF m 28 #[.val (.ref rc)] [(.int ((u1 ^^^ (-1 : Int32)).toInt8.toInt32)), (.int (1 : Int32)), (.ref rc)])) t → Steps p.tables e below (s₁.setTop (entryFrame m #[(.ref rc)] 1)) t := fun t kt => by
    refine S19 t ?_
    show Steps p.tables e below (T9.setTop (mkF m 24 #[.val (.ref rc)] [(.int (1 : Int32)), (.ref rc), (.int (1 : Int32)), (.ref rc)])) t
    refine X9.baloadBytes hx (j := (1 : Int32)) (v := (.int u1)) (by rw [e9]; exact Ar18.1) (State.isArrayOf_alike hZ.alike Ar18.2.1) Ar18.2.2 hin18 (Has.at Hh18 hin18 rfl) (g := (mkF m 24 #[.val (.ref rc)] [(.int (1 : Int32)), (.ref rc), (.int (1 : Int32)), (.ref rc)])) rfl rfl (hb hby own_d14_24) _ ?_
    show Steps p.tables e below (T9.setTop (mkF m 25 #[.val (.ref rc)] [(.int u1), (.int (1 : Int32)), (.ref rc)])) t
    refine XS.iconst X9.here hx rfl (hb hby own_d14_25) ?_
    refine XS.ixor X9.here hx rfl (hb hby own_d14_26) rfl ?_
    refine XS.i2b X9.here hx rfl (hb hby own_d14_27) rfl ?_
    exact kt
  obtain ⟨cl21, Ar21, q21, Sz21, Nn21, Hh21, Gg21⟩ := id V11
  have hin21 : ¬ ((1 : Int32) < 0 ∨ cl21.slots.size ≤ ((1 : Int32)).toNatClampNeg) := inb_of Sz21 ⟨by decide, by decide⟩
  obtain ⟨T22, h22, X22, e22, W22, st22⟩ := stB X9 hx hZ e9 Ar21 (j := (1 : Int32)) hin21 (g := (mkF m 28 #[.val (.ref rc)] [(.int ((u1 ^^^ (-1 : Int32)).toInt8.toInt32)), (.int (1 : Int32)), (.ref rc)])) rfl rfl (hb hby own_d14_28)
  have S23 : ∀ t, Steps p.tables e below (T22.setTop (mkF m 29 #[.val (.ref rc)] [])) t → Steps p.tables e below (s₁.setTop (entryFrame m #[(.ref rc)] 1)) t := fun t kt => S20 t (st22 _ kt)
  have V24 := Arv.set Ar21 q21 Sz21 Nn21 Hh21 Gg21 (fits_nar_byte _) W22 1 rfl (Nat.le_of_ble_eq_true rfl)
  have N25 := Fr.snoc X22 N12 g_rc
  have K26 : Keep h0 h22 [rc] := K13.wr W22 (Or.inl (List.mem_of_getElem? (i := 0) rfl))
  have S27 : ∀ t, Steps p.tables e below (T22.setTop (mkF m 30 #[.val (.ref rc)] [(.ref rc)])) t → Steps p.tables e below (s₁.setTop (entryFrame m #[(.ref rc)] 1)) t := fun t kt => by
    refine S23 t ?_
    show Steps p.tables e below (T22.setTop (mkF m 29 #[.val (.ref rc)] [])) t
    refine XS.aloadN X22.here hx rfl (hb hby own_d14_29) rfl rfl ?_
    exact kt
  obtain ⟨cl28, Ar28, -, Sz28, Nn28, -, -⟩ := id V24
  have S29 : ∀ t, Steps p.tables e below (T22.setTop (mkF m 32 #[.val (.ref rc)] [(.int (2 : Int32)), (.int (2 : Int32))])) t → Steps p.tables e below (s₁.setTop (entryFrame m #[(.ref rc)] 1)) t := fun t kt => by
    refine S27 t ?_
    show Steps p.tables e below (T22.setTop (mkF m 30 #[.val (.ref rc)] [(.ref rc)])) t
    refine X22.arraylength hx (by rw [e22]; exact Ar28.1) (State.isArrayOf_alike hZ.alike Ar28.2.1) (g := (mkF m 30 #[.val (.ref rc)] [(.ref rc)])) rfl rfl (hb hby own_d14_30) _ ?_
    rw [len_of Sz28 Nn28]
    show Steps p.tables e below (T22.setTop (mkF m 31 #[.val (.ref rc)] [(.int (2 : Int32))])) t
    refine XS.iconst X22.here hx rfl (hb hby own_d14_31) ?_
    exact kt
  have hc32_30 : ¬ ((2 : Int32) < (2 : Int32)) := by decide
  have S31 : ∀ t, Steps p.tables e below (T22.setTop (mkF m 44 #[.val (.ref rc)] [])) t → Steps p.tables e below (s₁.setTop (entryFrame m #[(.ref rc)] 1)) t := fun t kt => by
    refine S29 t ?_
    show Steps p.tables e below (T22.setTop (mkF m 32 #[.val (.ref rc)] [(.int (2 : Int32)), (.int (2 : Int32))])) t
    refine XS.icmpYes X22.here hx rfl (pc0 := 32) (pc' := 44) rfl (hb hby own_d14_32) rfl (flt hc32_30).2.2.2 (by decide) (by decide) ?_
    exact kt
  obtain ⟨fs, hr, hrun, hended, hW, hsame⟩ := X22.leave (v := none) (fun _ => rfl)
  refine ⟨_, _, S31 _ ?_, hrun, hended, _, _, rfl, ?_, ⟨_, rfl⟩, hW, hsame.mono (by decide) (by decide)⟩
  · show Steps p.tables e below (T22.setTop (mkF m 44 #[.val (.ref rc)] [])) _
    exact X22.returnOut hx Bd.returns (hb hby own_d14_44) hr
  · show own_Q14n2 Z rc u0 u1 kr h0 n0 _ T22.heap _
    rw [e22]
    exact ⟨rfl, N25, K26⟩
theorem own_ef7n3 (m : MethodId) (x0 : Addr) (x1 : Addr) : entryFrame m #[(.ref x0), (.ref x1)] 2 = mkF m 0 #[.val (.ref x0), .val (.ref x1)] [] := by first | (simp [entryFrame, mkF, argsToLocals, Value.category]; done) | rfl
def own_Q7n3 (Z : State) (ky : Addr) (rc : Addr) (u0 : Int32) (u1 : Int32) (u2 : Int32) (kr : ClassId) (h0 : Heap) (n0 : Nat) (v : Option Value) (h : Heap) (L : List Loc) : Prop := ∃ (r tb : Addr), v = some (.ref r) ∧ Fr n0 L ∧ n0 ≤ tb ∧ h0.size ≤ tb ∧ Keep h0 h [] ∧ Exa Z h r "com/example/nestwarden/nestwarden/store/Journal$Change" ∧ Fld Z h r "com/example/nestwarden/nestwarden/store/Journal$Change" "key" "Ljava/lang/String;" (.ref ky) ∧ Fld Z h r "com/example/nestwarden/nestwarden/store/Journal$Change" "record" "[B" (.ref tb) ∧ Arv Z h tb kr .byte (3 : Int32) [(.int u0), (.int u1), (.int u2)] (.int (0 : Int32))
set_option maxHeartbeats 40000000 in
theorem own_rm7n3 (l : Launch) (Z : State) (a0 : Array Value) (hw : ∀ d ∈ tables_1, d.before a0 Z = true) (ws : List Jvm.Cond) (ky : Addr) (rc : Addr) (u0 : Int32) (u1 : Int32) (u2 : Int32) (kr : ClassId) (h0 : Heap) (n0 : Nat) (Z0 : n0 ≤ h0.size) (V_r : Arv Z h0 rc kr .byte (3 : Int32) [(.int u0), (.int u1), (.int u2)] (.int (0 : Int32))) (E_r : Exa Z h0 rc "[B") :
    MetFree l (⟨"com/example/nestwarden/nestwarden/store/Journal$Change", "keep", "(Ljava/lang/String;[B)Lcom/example/nestwarden/nestwarden/store/Journal$Change;"⟩ : MethodName) (head1 (Jvm.Cond.code (⟨"com/example/nestwarden/nestwarden/store/Journal$Change", "keep", "(Ljava/lang/String;[B)Lcom/example/nestwarden/nestwarden/store/Journal$Change;"⟩ : MethodName) prog_49_method_2_code 2 (some (.object "com/example/nestwarden/nestwarden/store/Journal$Change")) :: ws) ({ frames := 3, cells := 2, slots := 5, locals := 39 } : Room)) (fun argv U => argv = #[(.ref ky), (.ref rc)] ∧ Z.Warmed39 U.vm ∧ U.heap = h0) (fun _ _ _ _ _ => True) (fun _ U o U' => ∃ v L, o = .returned v ∧ own_Q7n3 Z ky rc u0 u1 u2 kr h0 n0 v U'.heap L ∧ FrameEnd U o U' L ({ frames := 3, cells := 2, slots := 5, locals := 39 } : Room).cells ({ frames := 3, cells := 2, slots := 5, locals := 39 } : Room).slots) := by
  refine MetFree.of_bodySF (plainFor_of_name own_pn1) hisR ?_
  intro p e s m args below meth c s₁ Bd hml0 hP hK
  obtain ⟨rfl, hZ, hh⟩ := hP
  have hx := Bd.exec
  have hby := Bd.bytes
  have hml : c.maxLocals = 2 := hml0
  have hown : s.vm.findClass "com/example/nestwarden/nestwarden/store/Journal$Change" = some m.cls := findClass_of_methodNamed Bd.named
  have hnm := (name_of_methodNamed Bd.named Bd.method).1
  have X0 : Stand p l e ({ frames := 3, cells := 2, slots := 5, locals := 39 } : Room) s m #[(.ref ky), (.ref rc)] below meth c s₁ [] 0 0 := Stand.of_body Bd
  have e0 : s₁.heap = h0 := by rw [← hh, Bd.state]; rfl
  have N0 := Fr.nil n0
  have pre0 : ∀ t, Steps p.tables e below (s₁.setTop (mkF m 0 #[.val (.ref ky), .val (.ref rc)] [])) t → Steps p.tables e below (s₁.setTop (entryFrame m #[(.ref ky), (.ref rc)] 2)) t := fun t k => castTop (own_ef7n3 m ky rc) k
  obtain ⟨T1, h1, X1, e1, E1, A1, D1, -, st1⟩ := newO X0 hx hZ hown (hw _ (List.mem_of_getElem? (i := 34) rfl)) (hw _ (List.mem_of_getElem? (i := 35) rfl)) (hw _ (List.mem_of_getElem? (i := 32) rfl)) e0 (g := (mkF m 0 #[.val (.ref ky), .val (.ref rc)] [])) rfl (hb hby own_d7_0) (by decide) (by decide)
  obtain ⟨b1, g1⟩ : ∃ z, z = h0.size := ⟨_, rfl⟩
  rw [← g1] at A1 D1 st1
  have S2 : ∀ t, Steps p.tables e below (T1.setTop (mkF m 3 #[.val (.ref ky), .val (.ref rc)] [(.ref b1)])) t → Steps p.tables e below (s₁.setTop (entryFrame m #[(.ref ky), (.ref rc)] 2)) t := fun t kt => pre0 t (st1 _ kt)
  have g_b1 : n0 ≤ b1 := Nat.le_trans Z0 (Nat.le_of_eq g1.symm)
  have sz_b1 : h0.size ≤ b1 := Nat.le_trans (Keep.refl h0 []).1 (Nat.le_of_eq g1.symm)
  have ne_rc_b1 : rc ≠ b1 := Nat.ne_of_lt (Nat.lt_of_lt_of_le V_r.lt (Nat.le_of_eq g1.symm))
  have F3 := V_r.ext E1
  have F4 := E_r.ext E1
  have K5 : Keep h0 h1 [] := (Keep.refl h0 []).ext E1
  have F6 : Fld Z h1 b1 "com/example/nestwarden/nestwarden/store/Journal$Change" "key" "Ljava/lang/String;" .null := D1 (Or.inr (hw _ (List.mem_of_getElem? (i := 55) rfl))) (ty := (.object "java/lang/String")) (by decide)
  have F7 : Fld Z h1 b1 "com/example/nestwarden/nestwarden/store/Journal$Change" "record" "[B" .null := D1 (Or.inr (hw _ (List.mem_of_getElem? (i := 57) rfl))) (ty := (.array .byte)) (by decide)
  have S8 : ∀ t, Steps p.tables e below (T1.setTop (mkF m 6 #[.val (.ref ky), .val (.ref rc)] [(.ref rc), (.ref ky), (.ref b1), (.ref b1)])) t → Steps p.tables e below (s₁.setTop (entryFrame m #[(.ref ky), (.ref rc)] 2)) t := fun t kt => by
    refine S2 t ?_
    show Steps p.tables e below (T1.setTop (mkF m 3 #[.val (.ref ky), .val (.ref rc)] [(.ref b1)])) t
    refine XS.dup X1.here hx rfl (hb hby own_d7_3) rfl rfl ?_
    refine XS.aloadN X1.here hx rfl (hb hby own_d7_4) rfl rfl ?_
    refine XS.aloadN X1.here hx rfl (hb hby own_d7_5) rfl rfl ?_
    exact kt
  obtain ⟨T9, h9, X9, e9, E9, A9, AE9, st9⟩ := cloneH X1 hx hZ hown (hw _ (List.mem_of_getElem? (i := 36) rfl)) (hw _ (List.mem_of_getElem? (i := 37) rfl)) (hw _ (List.mem_of_getElem? (i := 41) rfl)) (hw _ (List.mem_of_getElem? (i := 39) rfl)) (hw _ (List.mem_of_getElem? (i := 40) rfl)) (hw _ (List.mem_of_getElem? (i := 42) rfl)) e1 (Arv.arh F3) F4 (g := (mkF m 6 #[.val (.ref ky), .val (.ref rc)] [(.ref rc), (.ref ky), (.ref b1), (.ref b1)])) rfl (by rw [hml]; rfl) rfl (hb hby own_d7_6) (by decide) (W := 3) (cap := 3) (by show 2 * 0 + _ ≤ _; exact Nat.le_of_eq rfl) (by decide) (by decide) (by decide) (by decide)
  obtain ⟨b9, g9⟩ : ∃ z, z = h1.size := ⟨_, rfl⟩
  rw [← g9] at A9 AE9 st9
  have V9 : Arv Z h9 b9 kr .byte (3 : Int32) [(.int u0), (.int u1), (.int u2)] (.int (0 : Int32)) := A9
  have S10 : ∀ t, Steps p.tables e below (T9.setTop (mkF m 9 #[.val (.ref ky), .val (.ref rc)] [(.ref b9), (.ref ky), (.ref b1), (.ref b1)])) t → Steps p.tables e below (s₁.setTop (entryFrame m #[(.ref ky), (.ref rc)] 2)) t := fun t kt => S8 t (st9 _ kt)
  have g_b9 : n0 ≤ b9 := Nat.le_trans (Nat.le_trans Z0 K5.1) (Nat.le_of_eq g9.symm)
  have sz_b9 : h0.size ≤ b9 := Nat.le_trans K5.1 (Nat.le_of_eq g9.symm)
  have ne_rc_b9 : rc ≠ b9 := Nat.ne_of_lt (Nat.lt_of_lt_of_le F3.lt (Nat.le_of_eq g9.symm))
  have ne_b1_b9 : b1 ≠ b9 := Nat.ne_of_lt (Nat.lt_of_lt_of_le A1.lt (Nat.le_of_eq g9.symm))
  have F11 := F3.ext E9
  have F12 := F4.ext E9
  have F13 := A1.ext E9
  have F14 := F6.ext E9
  have F15 := F7.ext E9
  have K16 : Keep h0 h9 [] := K5.ext E9
  obtain ⟨T17, X17, e17, st17⟩ := castY X9 hx hZ hown (hw _ (List.mem_of_getElem? (i := 43) rfl)) e9 (Ins.self AE9) (g := (mkF m 9 #[.val (.ref ky), .val (.ref rc)] [(.ref b9), (.ref ky), (.ref b1), (.ref b1)])) rfl rfl (hb hby own_d7_9)
  have S18 : ∀ t, Steps p.tables e below (T17.setTop (mkF m 12 #[.val (.ref ky), .val (.ref rc)] [(.ref b9), (.ref ky), (.ref b1), (.ref b1)])) t → Steps p.tables e below (s₁.setTop (entryFrame m #[(.ref ky), (.ref rc)] 2)) t := fun t kt => S10 t (st17 _ kt)
  obtain ⟨_, _, ⟨T21, L21, k21, n21⟩, -, X21, ⟨Lc21, hQ21, l21, y21, z21⟩, st21⟩ := X17.specialBack hx (y := (⟨"com/example/nestwarden/nestwarden/store/Journal$Change", "<init>", "(Ljava/lang/String;[B)V"⟩ : MethodName)) rfl hown (mvT hZ (hw _ (List.mem_of_getElem? (i := 45) rfl))) (mvT hZ (hw _ (List.mem_of_getElem? (i := 46) rfl))) (mvT hZ (hw _ (List.mem_of_getElem? (i := 47) rfl))) (by decide) (backOf (W := 1) (own_rm8 l Z a0 hw [] (b1) (ky) (b9) (.null) (.null) h9 n0 (Nat.le_trans Z0 K16.1) F13 g_b1 F14 F15) hZ (hw _ (List.mem_of_getElem? (i := 47) rfl)) (hw _ (List.mem_of_getElem? (i := 32) rfl)) (by decide) (by decide)) (g := (mkF m 12 #[.val (.ref ky), .val (.ref rc)] [(.ref b9), (.ref ky), (.ref b1), (.ref b1)])) rfl (by rw [hml]; rfl) (Steps.refl _) (a := b1) (argsL := [(.ref ky), (.ref b9)]) (rest := [(.ref b1)]) (lenOf own_pd5 rfl) rfl (by show 2 * 0 + _ ≤ _; exact Nat.le_of_eq rfl) (hb hby own_d7_12) (fun _ _ => ⟨rfl, e17, (by decide : 2 + 0 ≤ _), (by decide : 5 + 0 ≤ _)⟩)
  dsimp only [Pt.U, Pt.locs, Pt.cells, Pt.slots] at X21 l21 y21 z21 st21 hQ21
  subst l21 y21 z21
  obtain ⟨rfl, Nq21, Kc19, Ec19, Fc19_key, Fc19_record⟩ := hQ21
  have N22 := Fr.app N0 Nq21
  have S23 : ∀ t, Steps p.tables e below (T21.setTop (mkF m 15 #[.val (.ref ky), .val (.ref rc)] [(.ref b1)])) t → Steps p.tables e below (s₁.setTop (entryFrame m #[(.ref ky), (.ref rc)] 2)) t := fun t kt => S18 t (st21.trans kt)
  have F24 := F11.keep Kc19 (ninS ne_rc_b1 nin0)
  have F25 := F12.keep Kc19
  have F26 := F13.keep Kc19
  have F27 := V9.keep Kc19 (ninS (Ne.symm ne_b1_b9) nin0)
  have F28 := AE9.keep Kc19
  have K29 : Keep h0 T21.heap [] := K16.trans Kc19 (allS (Or.inr sz_b1) all0)
  obtain ⟨fs, hr, hrun, hended, hW, hsame⟩ := X21.leave (v := some (.ref b1)) (fun h => by rw [Bd.returns] at h; cases h)
  refine ⟨_, _, S23 _ ?_, hrun, hended, _, _, rfl, ?_, ⟨_, rfl⟩, hW, hsame.mono (by decide) (by decide)⟩
  · show Steps p.tables e below (T21.setTop (mkF m 15 #[.val (.ref ky), .val (.ref rc)] [(.ref b1)])) _
    jvm_step X21.here [X21.here.top, hx, (hb hby own_d7_15), X21.method', Bd.returns, Value.isRef, FieldType.isReference]
    first | (intro acts; rw [hr _ acts rfl rfl rfl]) | rw [hr _ _ rfl rfl rfl]
    exact Steps.refl _
  · show own_Q7n3 Z ky rc u0 u1 u2 kr h0 n0 _ T21.heap _
    exact ⟨b1, b9, rfl, N22, g_b9, sz_b9, K29, F26, Fc19_key, Fc19_record, F27⟩
theorem own_d13_35 : decode method_3_code 35 = .ok (.aload_n 0, 1) := by decide +kernel
theorem own_d13_36 : decode method_3_code 36 = .ok (.iconst 2, 1) := by decide +kernel
theorem own_d13_37 : decode method_3_code 37 = .ok (.baload, 1) := by decide +kernel
theorem own_d13_38 : decode method_3_code 38 = .ok (.iload_n 3, 1) := by decide +kernel
theorem own_d13_39 : decode method_3_code 39 = .ok (.if_icmp .eq 5, 3) := by decide +kernel
theorem own_ef13n3 (m : MethodId) (x0 : Addr) (x1 : Int32) (x2 : Int32) (x3 : Int32) : entryFrame m #[(.ref x0), (.int x1), (.int x2), (.int x3)] 4 = mkF m 0 #[.val (.ref x0), .val (.int x1), .val (.int x2), .val (.int x3)] [] := by first | (simp [entryFrame, mkF, argsToLocals, Value.category]; done) | rfl
def own_Q13n3 (Z : State) (rc : Addr) (b0 : Int32) (b1 : Int32) (b2 : Int32) (u0 : Int32) (u1 : Int32) (u2 : Int32) (kr : ClassId) (h0 : Heap) (n0 : Nat) (v : Option Value) (h : Heap) (L : List Loc) : Prop := v = some (.int (1 : Int32)) ∧ L = [] ∧ h = h0
set_option maxHeartbeats 40000000 in
theorem own_rm13n3 (l : Launch) (Z : State) (a0 : Array Value) (hw : ∀ d ∈ tables_1, d.before a0 Z = true) (ws : List Jvm.Cond) (rc : Addr) (b0 : Int32) (b1 : Int32) (b2 : Int32) (u0 : Int32) (u1 : Int32) (u2 : Int32) (kr : ClassId) (h0 : Heap) (n0 : Nat) (Z0 : n0 ≤ h0.size) (V_r : Arv Z h0 rc kr .byte (3 : Int32) [(.int u0), (.int u1), (.int u2)] (.int (0 : Int32))) (he0 : u0 = b0) (he1 : u1 = b1) (he2 : u2 = b2) :
    MetFree l (⟨"com/example/nestwarden/nestwarden/store/ChangeKeepPinLaw", "same", "([BBBB)Z"⟩ : MethodName) (head1 (Jvm.Cond.code (⟨"com/example/nestwarden/nestwarden/store/ChangeKeepPinLaw", "same", "([BBBB)Z"⟩ : MethodName) method_3_code 4 (some .boolean) :: ws) ({ frames := 0, cells := 0, slots := 0, locals := 0 } : Room)) (fun argv U => argv = #[(.ref rc), (.int b0), (.int b1), (.int b2)] ∧ Z.Warmed39 U.vm ∧ U.heap = h0) (fun _ _ _ _ _ => True) (fun _ U o U' => ∃ v L, o = .returned v ∧ own_Q13n3 Z rc b0 b1 b2 u0 u1 u2 kr h0 n0 v U'.heap L ∧ FrameEnd U o U' L ({ frames := 0, cells := 0, slots := 0, locals := 0 } : Room).cells ({ frames := 0, cells := 0, slots := 0, locals := 0 } : Room).slots) := by
  refine MetFree.of_bodySF (plainFor_of_name own_pn4) hisR ?_
  intro p e s m args below meth c s₁ Bd hml0 hP hK
  obtain ⟨rfl, hZ, hh⟩ := hP
  have hx := Bd.exec
  have hby := Bd.bytes
  have hml : c.maxLocals = 4 := hml0
  have hown : s.vm.findClass "com/example/nestwarden/nestwarden/store/ChangeKeepPinLaw" = some m.cls := findClass_of_methodNamed Bd.named
  have hnm := (name_of_methodNamed Bd.named Bd.method).1
  have X0 : Stand p l e ({ frames := 0, cells := 0, slots := 0, locals := 0 } : Room) s m #[(.ref rc), (.int b0), (.int b1), (.int b2)] below meth c s₁ [] 0 0 := Stand.of_body Bd
  have e0 : s₁.heap = h0 := by rw [← hh, Bd.state]; rfl
  have N0 := Fr.nil n0
  have pre0 : ∀ t, Steps p.tables e below (s₁.setTop (mkF m 0 #[.val (.ref rc), .val (.int b0), .val (.int b1), .val (.int b2)] [])) t → Steps p.tables e below (s₁.setTop (entryFrame m #[(.ref rc), (.int b0), (.int b1), (.int b2)] 4)) t := fun t k => castTop (own_ef13n3 m rc b0 b1 b2) k
  have S1 : ∀ t, Steps p.tables e below (s₁.setTop (mkF m 1 #[.val (.ref rc), .val (.int b0), .val (.int b1), .val (.int b2)] [(.ref rc)])) t → Steps p.tables e below (s₁.setTop (entryFrame m #[(.ref rc), (.int b0), (.int b1), (.int b2)] 4)) t := fun t kt => by
    refine pre0 t ?_
    show Steps p.tables e below (s₁.setTop (mkF m 0 #[.val (.ref rc), .val (.int b0), .val (.int b1), .val (.int b2)] [])) t
    refine XS.aloadN X0.here hx rfl (hb hby own_d13_0) rfl rfl ?_
    exact kt
  obtain ⟨cl2, Ar2, -, Sz2, Nn2, -, -⟩ := id V_r
  have S3 : ∀ t, Steps p.tables e below (s₁.setTop (mkF m 2 #[.val (.ref rc), .val (.int b0), .val (.int b1), .val (.int b2)] [(.int (3 : Int32))])) t → Steps p.tables e below (s₁.setTop (entryFrame m #[(.ref rc), (.int b0), (.int b1), (.int b2)] 4)) t := fun t kt => by
    refine S1 t ?_
    show Steps p.tables e below (s₁.setTop (mkF m 1 #[.val (.ref rc), .val (.int b0), .val (.int b1), .val (.int b2)] [(.ref rc)])) t
    refine X0.arraylength hx (by rw [e0]; exact Ar2.1) (State.isArrayOf_alike hZ.alike Ar2.2.1) (g := (mkF m 1 #[.val (.ref rc), .val (.int b0), .val (.int b1), .val (.int b2)] [(.ref rc)])) rfl rfl (hb hby own_d13_1) _ ?_
    rw [len_of Sz2 Nn2]
    exact kt
  have hc2_4 : (0 : Int32) < (3 : Int32) := by decide
  have S6 : ∀ t, Steps p.tables e below (s₁.setTop (mkF m 7 #[.val (.ref rc), .val (.int b0), .val (.int b1), .val (.int b2)] [(.int (0 : Int32)), (.ref rc)])) t → Steps p.tables e below (s₁.setTop (entryFrame m #[(.ref rc), (.int b0), (.int b1), (.int b2)] 4)) t := fun t kt => by
    refine S3 t ?_
    show Steps p.tables e below (s₁.setTop (mkF m 2 #[.val (.ref rc), .val (.int b0), .val (.int b1), .val (.int b2)] [(.int (3 : Int32))])) t
    refine XS.ifNo X0.here hx rfl (hb hby own_d13_2) rfl ((if0 _ _).trans (tlt hc2_4).2.2.2) ?_
    refine XS.aloadN X0.here hx rfl (hb hby own_d13_5) rfl rfl ?_
    refine XS.iconst X0.here hx rfl (hb hby own_d13_6) ?_
    exact kt
  obtain ⟨cl5, Ar5, -, Sz5, Nn5, Hh5, -⟩ := id V_r
  have hin5 : ¬ ((0 : Int32) < 0 ∨ cl5.slots.size ≤ ((0 : Int32)).toNatClampNeg) := inb_of Sz5 ⟨by decide, by decide⟩
  have S7 : ∀ t, Steps p.tables e below (s₁.setTop (mkF m 9 #[.val (.ref rc), .val (.int b0), .val (.int b1), .val (.int b2)] [(.int b0), (.int u0)])) t → Steps p.tables e below (s₁.setTop (entryFrame m #[(.ref rc), (.int b0), (.int b1), (.int b2)] 4)) t := fun t kt => by
    refine S6 t ?_
    show Steps p.tables e below (s₁.setTop (mkF m 7 #[.val (.ref rc), .val (.int b0), .val (.int b1), .val (.int b2)] [(.int (0 : Int32)), (.ref rc)])) t
    refine X0.baloadBytes hx (j := (0 : Int32)) (v := (.int u0)) (by rw [e0]; exact Ar5.1) (State.isArrayOf_alike hZ.alike Ar5.2.1) Ar5.2.2 hin5 (Has.at Hh5 hin5 rfl) (g := (mkF m 7 #[.val (.ref rc), .val (.int b0), .val (.int b1), .val (.int b2)] [(.int (0 : Int32)), (.ref rc)])) rfl rfl (hb hby own_d13_7) _ ?_
    show Steps p.tables e below (s₁.setTop (mkF m 8 #[.val (.ref rc), .val (.int b0), .val (.int b1), .val (.int b2)] [(.int u0)])) t
    refine XS.iloadN X0.here hx rfl (hb hby own_d13_8) rfl ?_
    exact kt
  have hc9_8 : u0 = b0 := he0
  have S9 : ∀ t, Steps p.tables e below (s₁.setTop (mkF m 15 #[.val (.ref rc), .val (.int b0), .val (.int b1), .val (.int b2)] [(.ref rc)])) t → Steps p.tables e below (s₁.setTop (entryFrame m #[(.ref rc), (.int b0), (.int b1), (.int b2)] 4)) t := fun t kt => by
    refine S7 t ?_
    show Steps p.tables e below (s₁.setTop (mkF m 9 #[.val (.ref rc), .val (.int b0), .val (.int b1), .val (.int b2)] [(.int b0), (.int u0)])) t
    refine XS.icmpYes X0.here hx rfl (pc0 := 9) (pc' := 14) rfl (hb hby own_d13_9) rfl (teq hc9_8).1 (by decide) (by decide) ?_
    refine XS.aloadN X0.here hx rfl (hb hby own_d13_14) rfl rfl ?_
    exact kt
  obtain ⟨cl10, Ar10, -, Sz10, Nn10, -, -⟩ := id V_r
  have S11 : ∀ t, Steps p.tables e below (s₁.setTop (mkF m 17 #[.val (.ref rc), .val (.int b0), .val (.int b1), .val (.int b2)] [(.int (1 : Int32)), (.int (3 : Int32))])) t → Steps p.tables e below (s₁.setTop (entryFrame m #[(.ref rc), (.int b0), (.int b1), (.int b2)] 4)) t := fun t kt => by
    refine S9 t ?_
    show Steps p.tables e below (s₁.setTop (mkF m 15 #[.val (.ref rc), .val (.int b0), .val (.int b1), .val (.int b2)] [(.ref rc)])) t
    refine X0.arraylength hx (by rw [e0]; exact Ar10.1) (State.isArrayOf_alike hZ.alike Ar10.2.1) (g := (mkF m 15 #[.val (.ref rc), .val (.int b0), .val (.int b1), .val (.int b2)] [(.ref rc)])) rfl rfl (hb hby own_d13_15) _ ?_
    rw [len_of Sz10 Nn10]
    show Steps p.tables e below (s₁.setTop (mkF m 16 #[.val (.ref rc), .val (.int b0), .val (.int b1), .val (.int b2)] [(.int (3 : Int32))])) t
    refine XS.iconst X0.here hx rfl (hb hby own_d13_16) ?_
    exact kt
  have hc17_12 : (1 : Int32) < (3 : Int32) := by decide
  have S14 : ∀ t, Steps p.tables e below (s₁.setTop (mkF m 22 #[.val (.ref rc), .val (.int b0), .val (.int b1), .val (.int b2)] [(.int (1 : Int32)), (.ref rc)])) t → Steps p.tables e below (s₁.setTop (entryFrame m #[(.ref rc), (.int b0), (.int b1), (.int b2)] 4)) t := fun t kt => by
    refine S11 t ?_
    show Steps p.tables e below (s₁.setTop (mkF m 17 #[.val (.ref rc), .val (.int b0), .val (.int b1), .val (.int b2)] [(.int (1 : Int32)), (.int (3 : Int32))])) t
    refine XS.icmpNo X0.here hx rfl (hb hby own_d13_17) rfl (tlt hc17_12).2.2.2 ?_
    refine XS.aloadN X0.here hx rfl (hb hby own_d13_20) rfl rfl ?_
    refine XS.iconst X0.here hx rfl (hb hby own_d13_21) ?_
    exact kt
  obtain ⟨cl13, Ar13, -, Sz13, Nn13, Hh13, -⟩ := id V_r
  have hin13 : ¬ ((1 : Int32) < 0 ∨ cl13.slots.size ≤ ((1 : Int32)).toNatClampNeg) := inb_of Sz13 ⟨by decide, by decide⟩
  have S15 : ∀ t, Steps p.tables e below (s₁.setTop (mkF m 24 #[.val (.ref rc), .val (.int b0), .val (.int b1), .val (.int b2)] [(.int b1), (.int u1)])) t → Steps p.tables e below (s₁.setTop (entryFrame m #[(.ref rc), (.int b0), (.int b1), (.int b2)] 4)) t := fun t kt => by
    refine S14 t ?_
    show Steps p.tables e below (s₁.setTop (mkF m 22 #[.val (.ref rc), .val (.int b0), .val (.int b1), .val (.int b2)] [(.int (1 : Int32)), (.ref rc)])) t
    refine X0.baloadBytes hx (j := (1 : Int32)) (v := (.int u1)) (by rw [e0]; exact Ar13.1) (State.isArrayOf_alike hZ.alike Ar13.2.1) Ar13.2.2 hin13 (Has.at Hh13 hin13 rfl) (g := (mkF m 22 #[.val (.ref rc), .val (.int b0), .val (.int b1), .val (.int b2)] [(.int (1 : Int32)), (.ref rc)])) rfl rfl (hb hby own_d13_22) _ ?_
    show Steps p.tables e below (s₁.setTop (mkF m 23 #[.val (.ref rc), .val (.int b0), .val (.int b1), .val (.int b2)] [(.int u1)])) t
    refine XS.iloadN X0.here hx rfl (hb hby own_d13_23) rfl ?_
    exact kt
  have hc24_16 : u1 = b1 := he1
  have S17 : ∀ t, Steps p.tables e below (s₁.setTop (mkF m 30 #[.val (.ref rc), .val (.int b0), .val (.int b1), .val (.int b2)] [(.ref rc)])) t → Steps p.tables e below (s₁.setTop (entryFrame m #[(.ref rc), (.int b0), (.int b1), (.int b2)] 4)) t := fun t kt => by
    refine S15 t ?_
    show Steps p.tables e below (s₁.setTop (mkF m 24 #[.val (.ref rc), .val (.int b0), .val (.int b1), .val (.int b2)] [(.int b1), (.int u1)])) t
    refine XS.icmpYes X0.here hx rfl (pc0 := 24) (pc' := 29) rfl (hb hby own_d13_24) rfl (teq hc24_16).1 (by decide) (by decide) ?_
    refine XS.aloadN X0.here hx rfl (hb hby own_d13_29) rfl rfl ?_
    exact kt
  obtain ⟨cl18, Ar18, -, Sz18, Nn18, -, -⟩ := id V_r
  have S19 : ∀ t, Steps p.tables e below (s₁.setTop (mkF m 32 #[.val (.ref rc), .val (.int b0), .val (.int b1), .val (.int b2)] [(.int (2 : Int32)), (.int (3 : Int32))])) t → Steps p.tables e below (s₁.setTop (entryFrame m #[(.ref rc), (.int b0), (.int b1), (.int b2)] 4)) t := fun t kt => by
    refine S17 t ?_
    show Steps p.tables e below (s₁.setTop (mkF m 30 #[.val (.ref rc), .val (.int b0), .val (.int b1), .val (.int b2)] [(.ref rc)])) t
    refine X0.arraylength hx (by rw [e0]; exact Ar18.1) (State.isArrayOf_alike hZ.alike Ar18.2.1) (g := (mkF m 30 #[.val (.ref rc), .val (.int b0), .val (.int b1), .val (.int b2)] [(.ref rc)])) rfl rfl (hb hby own_d13_30) _ ?_
    rw [len_of Sz18 Nn18]
    show Steps p.tables e below (s₁.setTop (mkF m 31 #[.val (.ref rc), .val (.int b0), .val (.int b1), .val (.int b2)] [(.int (3 : Int32))])) t
    refine XS.iconst X0.here hx rfl (hb hby own_d13_31) ?_
    exact kt
  have hc32_20 : (2 : Int32) < (3 : Int32) := by decide
  have S22 : ∀ t, Steps p.tables e below (s₁.setTop (mkF m 37 #[.val (.ref rc), .val (.int b0), .val (.int b1), .val (.int b2)] [(.int (2 : Int32)), (.ref rc)])) t → Steps p.tables e below (s₁.setTop (entryFrame m #[(.ref rc), (.int b0), (.int b1), (.int b2)] 4)) t := fun t kt => by
    refine S19 t ?_
    show Steps p.tables e below (s₁.setTop (mkF m 32 #[.val (.ref rc), .val (.int b0), .val (.int b1), .val (.int b2)] [(.int (2 : Int32)), (.int (3 : Int32))])) t
    refine XS.icmpNo X0.here hx rfl (hb hby own_d13_32) rfl (tlt hc32_20).2.2.2 ?_
    refine XS.aloadN X0.here hx rfl (hb hby own_d13_35) rfl rfl ?_
    refine XS.iconst X0.here hx rfl (hb hby own_d13_36) ?_
    exact kt
  obtain ⟨cl21, Ar21, -, Sz21, Nn21, Hh21, -⟩ := id V_r
  have hin21 : ¬ ((2 : Int32) < 0 ∨ cl21.slots.size ≤ ((2 : Int32)).toNatClampNeg) := inb_of Sz21 ⟨by decide, by decide⟩
  have S23 : ∀ t, Steps p.tables e below (s₁.setTop (mkF m 39 #[.val (.ref rc), .val (.int b0), .val (.int b1), .val (.int b2)] [(.int b2), (.int u2)])) t → Steps p.tables e below (s₁.setTop (entryFrame m #[(.ref rc), (.int b0), (.int b1), (.int b2)] 4)) t := fun t kt => by
    refine S22 t ?_
    show Steps p.tables e below (s₁.setTop (mkF m 37 #[.val (.ref rc), .val (.int b0), .val (.int b1), .val (.int b2)] [(.int (2 : Int32)), (.ref rc)])) t
    refine X0.baloadBytes hx (j := (2 : Int32)) (v := (.int u2)) (by rw [e0]; exact Ar21.1) (State.isArrayOf_alike hZ.alike Ar21.2.1) Ar21.2.2 hin21 (Has.at Hh21 hin21 rfl) (g := (mkF m 37 #[.val (.ref rc), .val (.int b0), .val (.int b1), .val (.int b2)] [(.int (2 : Int32)), (.ref rc)])) rfl rfl (hb hby own_d13_37) _ ?_
    show Steps p.tables e below (s₁.setTop (mkF m 38 #[.val (.ref rc), .val (.int b0), .val (.int b1), .val (.int b2)] [(.int u2)])) t
    refine XS.iloadN X0.here hx rfl (hb hby own_d13_38) rfl ?_
    exact kt
  have hc39_24 : u2 = b2 := he2
  have S25 : ∀ t, Steps p.tables e below (s₁.setTop (mkF m 45 #[.val (.ref rc), .val (.int b0), .val (.int b1), .val (.int b2)] [(.int (1 : Int32))])) t → Steps p.tables e below (s₁.setTop (entryFrame m #[(.ref rc), (.int b0), (.int b1), (.int b2)] 4)) t := fun t kt => by
    refine S23 t ?_
    show Steps p.tables e below (s₁.setTop (mkF m 39 #[.val (.ref rc), .val (.int b0), .val (.int b1), .val (.int b2)] [(.int b2), (.int u2)])) t
    refine XS.icmpYes X0.here hx rfl (pc0 := 39) (pc' := 44) rfl (hb hby own_d13_39) rfl (teq hc39_24).1 (by decide) (by decide) ?_
    refine XS.iconst X0.here hx rfl (hb hby own_d13_44) ?_
    exact kt
  obtain ⟨fs, hr, hrun, hended, hW, hsame⟩ := X0.leave (v := some (.int (nar .boolean (1 : Int32)))) (fun h => by rw [Bd.returns] at h; cases h)
  refine ⟨_, _, S25 _ ?_, hrun, hended, _, _, rfl, ?_, ⟨_, rfl⟩, hW, hsame.mono (by decide) (by decide)⟩
  · show Steps p.tables e below (s₁.setTop (mkF m 45 #[.val (.ref rc), .val (.int b0), .val (.int b1), .val (.int b2)] [(.int (1 : Int32))])) _
    exact retN X0 hx (t := .boolean) Bd.returns (by simp) (hb hby own_d13_45) hr
  · show own_Q13n3 Z rc b0 b1 b2 u0 u1 u2 kr h0 n0 _ s₁.heap _
    rw [e0]
    exact ⟨rfl, rfl, rfl⟩
theorem own_d14_35 : decode method_4_code 35 = .ok (.aload_n 0, 1) := by decide +kernel
theorem own_d14_36 : decode method_4_code 36 = .ok (.iconst 2, 1) := by decide +kernel
theorem own_d14_37 : decode method_4_code 37 = .ok (.aload_n 0, 1) := by decide +kernel
theorem own_d14_38 : decode method_4_code 38 = .ok (.iconst 2, 1) := by decide +kernel
theorem own_d14_39 : decode method_4_code 39 = .ok (.baload, 1) := by decide +kernel
theorem own_d14_40 : decode method_4_code 40 = .ok (.iconst (-1), 1) := by decide +kernel
theorem own_d14_41 : decode method_4_code 41 = .ok (.ixor, 1) := by decide +kernel
theorem own_d14_42 : decode method_4_code 42 = .ok (.i2b, 1) := by decide +kernel
theorem own_d14_43 : decode method_4_code 43 = .ok (.bastore, 1) := by decide +kernel
theorem own_ef14n3 (m : MethodId) (x0 : Addr) : entryFrame m #[(.ref x0)] 1 = mkF m 0 #[.val (.ref x0)] [] := by first | (simp [entryFrame, mkF, argsToLocals, Value.category]; done) | rfl
def own_Q14n3 (Z : State) (rc : Addr) (u0 : Int32) (u1 : Int32) (u2 : Int32) (kr : ClassId) (h0 : Heap) (n0 : Nat) (v : Option Value) (h : Heap) (L : List Loc) : Prop := v = none ∧ Fr n0 L ∧ Keep h0 h [rc]
set_option maxHeartbeats 40000000 in
theorem own_rm14n3 (l : Launch) (Z : State) (a0 : Array Value) (hw : ∀ d ∈ tables_1, d.before a0 Z = true) (ws : List Jvm.Cond) (rc : Addr) (u0 : Int32) (u1 : Int32) (u2 : Int32) (kr : ClassId) (h0 : Heap) (n0 : Nat) (Z0 : n0 ≤ h0.size) (V_r : Arv Z h0 rc kr .byte (3 : Int32) [(.int u0), (.int u1), (.int u2)] (.int (0 : Int32))) (g_rc : n0 ≤ rc) :
    MetFree l (⟨"com/example/nestwarden/nestwarden/store/ChangeKeepPinLaw", "flip", "([B)V"⟩ : MethodName) (head1 (Jvm.Cond.code (⟨"com/example/nestwarden/nestwarden/store/ChangeKeepPinLaw", "flip", "([B)V"⟩ : MethodName) method_4_code 1 none :: ws) ({ frames := 0, cells := 0, slots := 0, locals := 0 } : Room)) (fun argv U => argv = #[(.ref rc)] ∧ Z.Warmed39 U.vm ∧ U.heap = h0) (fun _ _ _ _ _ => True) (fun _ U o U' => ∃ v L, o = .returned v ∧ own_Q14n3 Z rc u0 u1 u2 kr h0 n0 v U'.heap L ∧ FrameEnd U o U' L ({ frames := 0, cells := 0, slots := 0, locals := 0 } : Room).cells ({ frames := 0, cells := 0, slots := 0, locals := 0 } : Room).slots) := by
  refine MetFree.of_bodySF (plainFor_of_name own_pn4) hisR ?_
  intro p e s m args below meth c s₁ Bd hml0 hP hK
  obtain ⟨rfl, hZ, hh⟩ := hP
  have hx := Bd.exec
  have hby := Bd.bytes
  have hml : c.maxLocals = 1 := hml0
  have hown : s.vm.findClass "com/example/nestwarden/nestwarden/store/ChangeKeepPinLaw" = some m.cls := findClass_of_methodNamed Bd.named
  have hnm := (name_of_methodNamed Bd.named Bd.method).1
  have X0 : Stand p l e ({ frames := 0, cells := 0, slots := 0, locals := 0 } : Room) s m #[(.ref rc)] below meth c s₁ [] 0 0 := Stand.of_body Bd
  have e0 : s₁.heap = h0 := by rw [← hh, Bd.state]; rfl
  have N0 := Fr.nil n0
  have pre0 : ∀ t, Steps p.tables e below (s₁.setTop (mkF m 0 #[.val (.ref rc)] [])) t → Steps p.tables e below (s₁.setTop (entryFrame m #[(.ref rc)] 1)) t := fun t k => castTop (own_ef14n3 m rc) k
  have S1 : ∀ t, Steps p.tables e below (s₁.setTop (mkF m 1 #[.val (.ref rc)] [(.ref rc)])) t → Steps p.tables e below (s₁.setTop (entryFrame m #[(.ref rc)] 1)) t := fun t kt => by
    refine pre0 t ?_
    show Steps p.tables e below (s₁.setTop (mkF m 0 #[.val (.ref rc)] [])) t
    refine XS.aloadN X0.here hx rfl (hb hby own_d14_0) rfl rfl ?_
    exact kt
  obtain ⟨cl2, Ar2, -, Sz2, Nn2, -, -⟩ := id V_r
  have S3 : ∀ t, Steps p.tables e below (s₁.setTop (mkF m 2 #[.val (.ref rc)] [(.int (3 : Int32))])) t → Steps p.tables e below (s₁.setTop (entryFrame m #[(.ref rc)] 1)) t := fun t kt => by
    refine S1 t ?_
    show Steps p.tables e below (s₁.setTop (mkF m 1 #[.val (.ref rc)] [(.ref rc)])) t
    refine X0.arraylength hx (by rw [e0]; exact Ar2.1) (State.isArrayOf_alike hZ.alike Ar2.2.1) (g := (mkF m 1 #[.val (.ref rc)] [(.ref rc)])) rfl rfl (hb hby own_d14_1) _ ?_
    rw [len_of Sz2 Nn2]
    exact kt
  have hc2_4 : (0 : Int32) < (3 : Int32) := by decide
  have S6 : ∀ t, Steps p.tables e below (s₁.setTop (mkF m 9 #[.val (.ref rc)] [(.int (0 : Int32)), (.ref rc), (.int (0 : Int32)), (.ref rc)])) t → Steps p.tables e below (s₁.setTop (entryFrame m #[(.ref rc)] 1)) t := fun t kt => by
    refine S3 t ?_
    show Steps p.tables e below (s₁.setTop (mkF m 2 #[.val (.ref rc)] [(.int (3 : Int32))])) t
    refine XS.ifNo X0.here hx rfl (hb hby own_d14_2) rfl ((if0 _ _).trans (tlt hc2_4).2.2.2) ?_
    refine XS.aloadN X0.here hx rfl (hb hby own_d14_5) rfl rfl ?_
    refine XS.iconst X0.here hx rfl (hb hby own_d14_6) ?_
    refine XS.aloadN X0.here hx rfl (hb hby own_d14_7) rfl rfl ?_
    refine XS.iconst X0.here hx rfl (hb hby own_d14_8) ?_
    exact kt
  obtain ⟨cl5, Ar5, -, Sz5, Nn5, Hh5, -⟩ := id V_r
  have hin5 : ¬ ((0 : Int32) < 0 ∨ cl5.slots.size ≤ ((0 : Int32)).toNatClampNeg) := inb_of Sz5 ⟨by decide, by decide⟩
  have S7 : ∀ t, Steps p.tables e below (s₁.setTop (mkF m 13 #[.val (.ref rc)] [(.int ((u0 ^^^ (-1 : Int32)).toInt8.toInt32)), (.int (0 : Int32)), (.ref rc)])) t → Steps p.tables e below (s₁.setTop (entryFrame m #[(.ref rc)] 1)) t := fun t kt => by
    refine S6 t ?_
    show Steps p.tables e below (s₁.setTop (mkF m 9 #[.val (.ref rc)] [(.int (0 : Int32)), (.ref rc), (.int (0 : Int32)), (.ref rc)])) t
    refine X0.baloadBytes hx (j := (0 : Int32)) (v := (.int u0)) (by rw [e0]; exact Ar5.1) (State.isArrayOf_alike hZ.alike Ar5.2.1) Ar5.2.2 hin5 (Has.at Hh5 hin5 rfl) (g := (mkF m 9 #[.val (.ref rc)] [(.int (0 : Int32)), (.ref rc), (.int (0 : Int32)), (.ref rc)])) rfl rfl (hb hby own_d14_9) _ ?_
    show Steps p.tables e below (s₁.setTop (mkF m 10 #[.val (.ref rc)] [(.int u0), (.int (0 : Int32)), (.ref rc)])) t
    refine XS.iconst X0.here hx rfl (hb hby own_d14_10) ?_
    refine XS.ixor X0.here hx rfl (hb hby own_d14_11) rfl ?_
    refine XS.i2b X0.here hx rfl (hb hby own_d14_12) rfl ?_
    exact kt
  obtain ⟨cl8, Ar8, q8, Sz8, Nn8, Hh8, Gg8⟩ := id V_r
  have hin8 : ¬ ((0 : Int32) < 0 ∨ cl8.slots.size ≤ ((0 : Int32)).toNatClampNeg) := inb_of Sz8 ⟨by decide, by decide⟩
  obtain ⟨T9, h9, X9, e9, W9, st9⟩ := stB X0 hx hZ e0 Ar8 (j := (0 : Int32)) hin8 (g := (mkF m 13 #[.val (.ref rc)] [(.int ((u0 ^^^ (-1 : Int32)).toInt8.toInt32)), (.int (0 : Int32)), (.ref rc)])) rfl rfl (hb hby own_d14_13)
  have S10 : ∀ t, Steps p.tables e below (T9.setTop (mkF m 14 #[.val (.ref rc)] [])) t → Steps p.tables e below (s₁.setTop (entryFrame m #[(.ref rc)] 1)) t := fun t kt => S7 t (st9 _ kt)
  have V11 := Arv.set Ar8 q8 Sz8 Nn8 Hh8 Gg8 (fits_nar_byte _) W9 0 rfl (Nat.le_of_ble_eq_true rfl)
  have N12 := Fr.snoc X9 N0 g_rc
  have K13 : Keep h0 h9 [rc] := (Keep.refl h0 [rc]).wr W9 (Or.inl (List.mem_of_getElem? (i := 0) rfl))
  have S14 : ∀ t, Steps p.tables e below (T9.setTop (mkF m 15 #[.val (.ref rc)] [(.ref rc)])) t → Steps p.tables e below (s₁.setTop (entryFrame m #[(.ref rc)] 1)) t := fun t kt => by
    refine S10 t ?_
    show Steps p.tables e below (T9.setTop (mkF m 14 #[.val (.ref rc)] [])) t
    refine XS.aloadN X9.here hx rfl (hb hby own_d14_14) rfl rfl ?_
    exact kt
  obtain ⟨cl15, Ar15, -, Sz15, Nn15, -, -⟩ := id V11
  have S16 : ∀ t, Steps p.tables e below (T9.setTop (mkF m 17 #[.val (.ref rc)] [(.int (1 : Int32)), (.int (3 : Int32))])) t → Steps p.tables e below (s₁.setTop (entryFrame m #[(.ref rc)] 1)) t := fun t kt => by
    refine S14 t ?_
    show Steps p.tables e below (T9.setTop (mkF m 15 #[.val (.ref rc)] [(.ref rc)])) t
    refine X9.arraylength hx (by rw [e9]; exact Ar15.1) (State.isArrayOf_alike hZ.alike Ar15.2.1) (g := (mkF m 15 #[.val (.ref rc)] [(.ref rc)])) rfl rfl (hb hby own_d14_15) _ ?_
    rw [len_of Sz15 Nn15]
    show Steps p.tables e below (T9.setTop (mkF m 16 #[.val (.ref rc)] [(.int (3 : Int32))])) t
    refine XS.iconst X9.here hx rfl (hb hby own_d14_16) ?_
    exact kt
  have hc17_17 : (1 : Int32) < (3 : Int32) := by decide
  have S19 : ∀ t, Steps p.tables e below (T9.setTop (mkF m 24 #[.val (.ref rc)] [(.int (1 : Int32)), (.ref rc), (.int (1 : Int32)), (.ref rc)])) t → Steps p.tables e below (s₁.setTop (entryFrame m #[(.ref rc)] 1)) t := fun t kt => by
    refine S16 t ?_
    show Steps p.tables e below (T9.setTop (mkF m 17 #[.val (.ref rc)] [(.int (1 : Int32)), (.int (3 : Int32))])) t
    refine XS.icmpNo X9.here hx rfl (hb hby own_d14_17) rfl (tlt hc17_17).2.2.2 ?_
    refine XS.aloadN X9.here hx rfl (hb hby own_d14_20) rfl rfl ?_
    refine XS.iconst X9.here hx rfl (hb hby own_d14_21) ?_
    refine XS.aloadN X9.here hx rfl (hb hby own_d14_22) rfl rfl ?_
    refine XS.iconst X9.here hx rfl (hb hby own_d14_23) ?_
    exact kt
  obtain ⟨cl18, Ar18, -, Sz18, Nn18, Hh18, -⟩ := id V11
  have hin18 : ¬ ((1 : Int32) < 0 ∨ cl18.slots.size ≤ ((1 : Int32)).toNatClampNeg) := inb_of Sz18 ⟨by decide, by decide⟩
  have S20 : ∀ t, Steps p.tables e below (T9.setTop (mkF m 28 #[.val (.ref rc)] [(.int ((u1 ^^^ (-1 : Int32)).toInt8.toInt32)), (.int (1 : Int32)), (.ref rc)])) t → Steps p.tables e below (s₁.setTop (entryFrame m #[(.ref rc)] 1)) t := fun t kt => by
    refine S19 t ?_
    show Steps p.tables e below (T9.setTop (mkF m 24 #[.val (.ref rc)] [(.int (1 : Int32)), (.ref rc), (.int (1 : Int32)), (.ref rc)])) t
    refine X9.baloadBytes hx (j := (1 : Int32)) (v := (.int u1)) (by rw [e9]; exact Ar18.1) (State.isArrayOf_alike hZ.alike Ar18.2.1) Ar18.2.2 hin18 (Has.at Hh18 hin18 rfl) (g := (mkF m 24 #[.val (.ref rc)] [(.int (1 : Int32)), (.ref rc), (.int (1 : Int32)), (.ref rc)])) rfl rfl (hb hby own_d14_24) _ ?_
    show Steps p.tables e below (T9.setTop (mkF m 25 #[.val (.ref rc)] [(.int u1), (.int (1 : Int32)), (.ref rc)])) t
    refine XS.iconst X9.here hx rfl (hb hby own_d14_25) ?_
    refine XS.ixor X9.here hx rfl (hb hby own_d14_26) rfl ?_
    refine XS.i2b X9.here hx rfl (hb hby own_d14_27) rfl ?_
    exact kt
  obtain ⟨cl21, Ar21, q21, Sz21, Nn21, Hh21, Gg21⟩ := id V11
  have hin21 : ¬ ((1 : Int32) < 0 ∨ cl21.slots.size ≤ ((1 : Int32)).toNatClampNeg) := inb_of Sz21 ⟨by decide, by decide⟩
  obtain ⟨T22, h22, X22, e22, W22, st22⟩ := stB X9 hx hZ e9 Ar21 (j := (1 : Int32)) hin21 (g := (mkF m 28 #[.val (.ref rc)] [(.int ((u1 ^^^ (-1 : Int32)).toInt8.toInt32)), (.int (1 : Int32)), (.ref rc)])) rfl rfl (hb hby own_d14_28)
  have S23 : ∀ t, Steps p.tables e below (T22.setTop (mkF m 29 #[.val (.ref rc)] [])) t → Steps p.tables e below (s₁.setTop (entryFrame m #[(.ref rc)] 1)) t := fun t kt => S20 t (st22 _ kt)
  have V24 := Arv.set Ar21 q21 Sz21 Nn21 Hh21 Gg21 (fits_nar_byte _) W22 1 rfl (Nat.le_of_ble_eq_true rfl)
  have N25 := Fr.snoc X22 N12 g_rc
  have K26 : Keep h0 h22 [rc] := K13.wr W22 (Or.inl (List.mem_of_getElem? (i := 0) rfl))
  have S27 : ∀ t, Steps p.tables e below (T22.setTop (mkF m 30 #[.val (.ref rc)] [(.ref rc)])) t → Steps p.tables e below (s₁.setTop (entryFrame m #[(.ref rc)] 1)) t := fun t kt => by
    refine S23 t ?_
    show Steps p.tables e below (T22.setTop (mkF m 29 #[.val (.ref rc)] [])) t
    refine XS.aloadN X22.here hx rfl (hb hby own_d14_29) rfl rfl ?_
    exact kt
  obtain ⟨cl28, Ar28, -, Sz28, Nn28, -, -⟩ := id V24
  have S29 : ∀ t, Steps p.tables e below (T22.setTop (mkF m 32 #[.val (.ref rc)] [(.int (2 : Int32)), (.int (3 : Int32))])) t → Steps p.tables e below (s₁.setTop (entryFrame m #[(.ref rc)] 1)) t := fun t kt => by
    refine S27 t ?_
    show Steps p.tables e below (T22.setTop (mkF m 30 #[.val (.ref rc)] [(.ref rc)])) t
    refine X22.arraylength hx (by rw [e22]; exact Ar28.1) (State.isArrayOf_alike hZ.alike Ar28.2.1) (g := (mkF m 30 #[.val (.ref rc)] [(.ref rc)])) rfl rfl (hb hby own_d14_30) _ ?_
    rw [len_of Sz28 Nn28]
    show Steps p.tables e below (T22.setTop (mkF m 31 #[.val (.ref rc)] [(.int (3 : Int32))])) t
    refine XS.iconst X22.here hx rfl (hb hby own_d14_31) ?_
    exact kt
  have hc32_30 : (2 : Int32) < (3 : Int32) := by decide
  have S32 : ∀ t, Steps p.tables e below (T22.setTop (mkF m 39 #[.val (.ref rc)] [(.int (2 : Int32)), (.ref rc), (.int (2 : Int32)), (.ref rc)])) t → Steps p.tables e below (s₁.setTop (entryFrame m #[(.ref rc)] 1)) t := fun t kt => by
    refine S29 t ?_
    show Steps p.tables e below (T22.setTop (mkF m 32 #[.val (.ref rc)] [(.int (2 : Int32)), (.int (3 : Int32))])) t
    refine XS.icmpNo X22.here hx rfl (hb hby own_d14_32) rfl (tlt hc32_30).2.2.2 ?_
    refine XS.aloadN X22.here hx rfl (hb hby own_d14_35) rfl rfl ?_
    refine XS.iconst X22.here hx rfl (hb hby own_d14_36) ?_
    refine XS.aloadN X22.here hx rfl (hb hby own_d14_37) rfl rfl ?_
    refine XS.iconst X22.here hx rfl (hb hby own_d14_38) ?_
    exact kt
  obtain ⟨cl31, Ar31, -, Sz31, Nn31, Hh31, -⟩ := id V24
  have hin31 : ¬ ((2 : Int32) < 0 ∨ cl31.slots.size ≤ ((2 : Int32)).toNatClampNeg) := inb_of Sz31 ⟨by decide, by decide⟩
  have S33 : ∀ t, Steps p.tables e below (T22.setTop (mkF m 43 #[.val (.ref rc)] [(.int ((u2 ^^^ (-1 : Int32)).toInt8.toInt32)), (.int (2 : Int32)), (.ref rc)])) t → Steps p.tables e below (s₁.setTop (entryFrame m #[(.ref rc)] 1)) t := fun t kt => by
    refine S32 t ?_
    show Steps p.tables e below (T22.setTop (mkF m 39 #[.val (.ref rc)] [(.int (2 : Int32)), (.ref rc), (.int (2 : Int32)), (.ref rc)])) t
    refine X22.baloadBytes hx (j := (2 : Int32)) (v := (.int u2)) (by rw [e22]; exact Ar31.1) (State.isArrayOf_alike hZ.alike Ar31.2.1) Ar31.2.2 hin31 (Has.at Hh31 hin31 rfl) (g := (mkF m 39 #[.val (.ref rc)] [(.int (2 : Int32)), (.ref rc), (.int (2 : Int32)), (.ref rc)])) rfl rfl (hb hby own_d14_39) _ ?_
    show Steps p.tables e below (T22.setTop (mkF m 40 #[.val (.ref rc)] [(.int u2), (.int (2 : Int32)), (.ref rc)])) t
    refine XS.iconst X22.here hx rfl (hb hby own_d14_40) ?_
    refine XS.ixor X22.here hx rfl (hb hby own_d14_41) rfl ?_
    refine XS.i2b X22.here hx rfl (hb hby own_d14_42) rfl ?_
    exact kt
  obtain ⟨cl34, Ar34, q34, Sz34, Nn34, Hh34, Gg34⟩ := id V24
  have hin34 : ¬ ((2 : Int32) < 0 ∨ cl34.slots.size ≤ ((2 : Int32)).toNatClampNeg) := inb_of Sz34 ⟨by decide, by decide⟩
  obtain ⟨T35, h35, X35, e35, W35, st35⟩ := stB X22 hx hZ e22 Ar34 (j := (2 : Int32)) hin34 (g := (mkF m 43 #[.val (.ref rc)] [(.int ((u2 ^^^ (-1 : Int32)).toInt8.toInt32)), (.int (2 : Int32)), (.ref rc)])) rfl rfl (hb hby own_d14_43)
  have S36 : ∀ t, Steps p.tables e below (T35.setTop (mkF m 44 #[.val (.ref rc)] [])) t → Steps p.tables e below (s₁.setTop (entryFrame m #[(.ref rc)] 1)) t := fun t kt => S33 t (st35 _ kt)
  have V37 := Arv.set Ar34 q34 Sz34 Nn34 Hh34 Gg34 (fits_nar_byte _) W35 2 rfl (Nat.le_of_ble_eq_true rfl)
  have N38 := Fr.snoc X35 N25 g_rc
  have K39 : Keep h0 h35 [rc] := K26.wr W35 (Or.inl (List.mem_of_getElem? (i := 0) rfl))
  obtain ⟨fs, hr, hrun, hended, hW, hsame⟩ := X35.leave (v := none) (fun _ => rfl)
  refine ⟨_, _, S36 _ ?_, hrun, hended, _, _, rfl, ?_, ⟨_, rfl⟩, hW, hsame.mono (by decide) (by decide)⟩
  · show Steps p.tables e below (T35.setTop (mkF m 44 #[.val (.ref rc)] [])) _
    exact X35.returnOut hx Bd.returns (hb hby own_d14_44) hr
  · show own_Q14n3 Z rc u0 u1 u2 kr h0 n0 _ T35.heap _
    rw [e35]
    exact ⟨rfl, N38, K39⟩
theorem own_d12_0 : decode jdk_42_method_66_code 0 = .ok (.aload_n 0, 1) := by decide +kernel
theorem own_d12_1 : decode jdk_42_method_66_code 1 = .ok (.aload_n 1, 1) := by decide +kernel
theorem own_d12_2 : decode jdk_42_method_66_code 2 = .ok (.if_acmp .ne 5, 3) := by decide +kernel
theorem own_d12_5 : decode jdk_42_method_66_code 5 = .ok (.iconst 1, 1) := by decide +kernel
theorem own_d12_6 : decode jdk_42_method_66_code 6 = .ok (.ireturn, 1) := by decide +kernel
theorem own_ef12 (m : MethodId) (x0 : Addr) (x1 : Addr) : entryFrame m #[(.ref x0), (.ref x1)] 3 = mkF m 0 #[.val (.ref x0), .val (.ref x1), .unset] [] := by first | (simp [entryFrame, mkF, argsToLocals, Value.category]; done) | rfl
def own_Q12 (Z : State) (a : Addr) (o_ : Addr) (h0 : Heap) (n0 : Nat) (v : Option Value) (h : Heap) (L : List Loc) : Prop := v = some (.int (1 : Int32)) ∧ L = [] ∧ h = h0
set_option maxHeartbeats 40000000 in
theorem own_rm12 (l : Launch) (Z : State) (a0 : Array Value) (hw : ∀ d ∈ tables_1, d.before a0 Z = true) (ws : List Jvm.Cond) (a : Addr) (o_ : Addr) (h0 : Heap) (n0 : Nat) (Z0 : n0 ≤ h0.size) (he : a = o_) :
    MetFree l (⟨"java/lang/String", "equals", "(Ljava/lang/Object;)Z"⟩ : MethodName) (head1 (Jvm.Cond.code (⟨"java/lang/String", "equals", "(Ljava/lang/Object;)Z"⟩ : MethodName) jdk_42_method_66_code 3 (some .boolean) :: ws) ({ frames := 0, cells := 0, slots := 0, locals := 0 } : Room)) (fun argv U => argv = #[(.ref a), (.ref o_)] ∧ Z.Warmed39 U.vm ∧ U.heap = h0) (fun _ _ _ _ _ => True) (fun _ U o U' => ∃ v L, o = .returned v ∧ own_Q12 Z a o_ h0 n0 v U'.heap L ∧ FrameEnd U o U' L ({ frames := 0, cells := 0, slots := 0, locals := 0 } : Room).cells ({ frames := 0, cells := 0, slots := 0, locals := 0 } : Room).slots) := by
  refine MetFree.of_bodySF (plainFor_of_name own_pn3) hisR ?_
  intro p e s m args below meth c s₁ Bd hml0 hP hK
  obtain ⟨rfl, hZ, hh⟩ := hP
  have hx := Bd.exec
  have hby := Bd.bytes
  have hml : c.maxLocals = 3 := hml0
  have hown : s.vm.findClass "java/lang/String" = some m.cls := findClass_of_methodNamed Bd.named
  have hnm := (name_of_methodNamed Bd.named Bd.method).1
  have X0 : Stand p l e ({ frames := 0, cells := 0, slots := 0, locals := 0 } : Room) s m #[(.ref a), (.ref o_)] below meth c s₁ [] 0 0 := Stand.of_body Bd
  have e0 : s₁.heap = h0 := by rw [← hh, Bd.state]; rfl
  have N0 := Fr.nil n0
  have pre0 : ∀ t, Steps p.tables e below (s₁.setTop (mkF m 0 #[.val (.ref a), .val (.ref o_), .unset] [])) t → Steps p.tables e below (s₁.setTop (entryFrame m #[(.ref a), (.ref o_)] 3)) t := fun t k => castTop (own_ef12 m a o_) k
  have S1 : ∀ t, Steps p.tables e below (s₁.setTop (mkF m 2 #[.val (.ref a), .val (.ref o_), .unset] [(.ref o_), (.ref a)])) t → Steps p.tables e below (s₁.setTop (entryFrame m #[(.ref a), (.ref o_)] 3)) t := fun t kt => by
    refine pre0 t ?_
    show Steps p.tables e below (s₁.setTop (mkF m 0 #[.val (.ref a), .val (.ref o_), .unset] [])) t
    refine XS.aloadN X0.here hx rfl (hb hby own_d12_0) rfl rfl ?_
    refine XS.aloadN X0.here hx rfl (hb hby own_d12_1) rfl rfl ?_
    exact kt
  have hc2_2 : a = o_ := he
  have S3 : ∀ t, Steps p.tables e below (s₁.setTop (mkF m 6 #[.val (.ref a), .val (.ref o_), .unset] [(.int (1 : Int32))])) t → Steps p.tables e below (s₁.setTop (entryFrame m #[(.ref a), (.ref o_)] 3)) t := fun t kt => by
    refine S1 t ?_
    show Steps p.tables e below (s₁.setTop (mkF m 2 #[.val (.ref a), .val (.ref o_), .unset] [(.ref o_), (.ref a)])) t
    refine Jvm.RoadKit.acmp (g := (mkF m 2 #[.val (.ref a), .val (.ref o_), .unset] [(.ref o_), (.ref a)])) X0 hx rfl rfl rfl (pc0 := 2) (pc' := 5) (same := true) rfl (hb hby own_d12_2) rfl (decide_eq_true (congrArg Value.ref hc2_2)) (by decide) (by decide) ?_
    show Steps p.tables e below (s₁.setTop (mkF m 5 #[.val (.ref a), .val (.ref o_), .unset] [])) t
    refine XS.iconst X0.here hx rfl (hb hby own_d12_5) ?_
    exact kt
  obtain ⟨fs, hr, hrun, hended, hW, hsame⟩ := X0.leave (v := some (.int (nar .boolean (1 : Int32)))) (fun h => by rw [Bd.returns] at h; cases h)
  refine ⟨_, _, S3 _ ?_, hrun, hended, _, _, rfl, ?_, ⟨_, rfl⟩, hW, hsame.mono (by decide) (by decide)⟩
  · show Steps p.tables e below (s₁.setTop (mkF m 6 #[.val (.ref a), .val (.ref o_), .unset] [(.int (1 : Int32))])) _
    exact retN X0 hx (t := .boolean) Bd.returns (by simp) (hb hby own_d12_6) hr
  · show own_Q12 Z a o_ h0 n0 _ s₁.heap _
    rw [e0]
    exact ⟨rfl, rfl, rfl⟩
theorem own_d10_0 : decode prog_49_method_7_code 0 = .ok (.aload_n 0, 1) := by decide +kernel
theorem own_d10_1 : decode prog_49_method_7_code 1 = .ok (.getfield 7, 3) := by decide +kernel
theorem own_d10_4 : decode prog_49_method_7_code 4 = .ok (.areturn, 1) := by decide +kernel
theorem own_ef10 (m : MethodId) (x0 : Addr) : entryFrame m #[(.ref x0)] 1 = mkF m 0 #[.val (.ref x0)] [] := by first | (simp [entryFrame, mkF, argsToLocals, Value.category]; done) | rfl
def own_Q10 (Z : State) (a : Addr) (fv : Addr) (h0 : Heap) (n0 : Nat) (v : Option Value) (h : Heap) (L : List Loc) : Prop := v = some (.ref fv) ∧ L = [] ∧ h = h0
set_option maxHeartbeats 40000000 in
theorem own_rm10 (l : Launch) (Z : State) (a0 : Array Value) (hw : ∀ d ∈ tables_1, d.before a0 Z = true) (ws : List Jvm.Cond) (a : Addr) (fv : Addr) (h0 : Heap) (n0 : Nat) (Z0 : n0 ≤ h0.size) (F_key : Fld Z h0 a "com/example/nestwarden/nestwarden/store/Journal$Change" "key" "Ljava/lang/String;" (.ref fv)) :
    MetFree l (⟨"com/example/nestwarden/nestwarden/store/Journal$Change", "key", "()Ljava/lang/String;"⟩ : MethodName) (head1 (Jvm.Cond.code (⟨"com/example/nestwarden/nestwarden/store/Journal$Change", "key", "()Ljava/lang/String;"⟩ : MethodName) prog_49_method_7_code 1 (some (.object "java/lang/String")) :: ws) ({ frames := 0, cells := 0, slots := 0, locals := 0 } : Room)) (fun argv U => argv = #[(.ref a)] ∧ Z.Warmed39 U.vm ∧ U.heap = h0) (fun _ _ _ _ _ => True) (fun _ U o U' => ∃ v L, o = .returned v ∧ own_Q10 Z a fv h0 n0 v U'.heap L ∧ FrameEnd U o U' L ({ frames := 0, cells := 0, slots := 0, locals := 0 } : Room).cells ({ frames := 0, cells := 0, slots := 0, locals := 0 } : Room).slots) := by
  refine MetFree.of_bodySF (plainFor_of_name own_pn1) hisR ?_
  intro p e s m args below meth c s₁ Bd hml0 hP hK
  obtain ⟨rfl, hZ, hh⟩ := hP
  have hx := Bd.exec
  have hby := Bd.bytes
  have hml : c.maxLocals = 1 := hml0
  have hown : s.vm.findClass "com/example/nestwarden/nestwarden/store/Journal$Change" = some m.cls := findClass_of_methodNamed Bd.named
  have hnm := (name_of_methodNamed Bd.named Bd.method).1
  have X0 : Stand p l e ({ frames := 0, cells := 0, slots := 0, locals := 0 } : Room) s m #[(.ref a)] below meth c s₁ [] 0 0 := Stand.of_body Bd
  have e0 : s₁.heap = h0 := by rw [← hh, Bd.state]; rfl
  have N0 := Fr.nil n0
  have pre0 : ∀ t, Steps p.tables e below (s₁.setTop (mkF m 0 #[.val (.ref a)] [])) t → Steps p.tables e below (s₁.setTop (entryFrame m #[(.ref a)] 1)) t := fun t k => castTop (own_ef10 m a) k
  have S1 : ∀ t, Steps p.tables e below (s₁.setTop (mkF m 1 #[.val (.ref a)] [(.ref a)])) t → Steps p.tables e below (s₁.setTop (entryFrame m #[(.ref a)] 1)) t := fun t kt => by
    refine pre0 t ?_
    show Steps p.tables e below (s₁.setTop (mkF m 0 #[.val (.ref a)] [])) t
    refine XS.aloadN X0.here hx rfl (hb hby own_d10_0) rfl rfl ?_
    exact kt
  obtain ⟨T2, X2, e2, st2⟩ := getF X0 hx hZ hown (host := "") (Or.inl (hw _ (List.mem_of_getElem? (i := 54) rfl))) Via.refl e0 F_key (g := (mkF m 1 #[.val (.ref a)] [(.ref a)])) rfl rfl (hb hby own_d10_1)
  have S3 : ∀ t, Steps p.tables e below (T2.setTop (mkF m 4 #[.val (.ref a)] [(.ref fv)])) t → Steps p.tables e below (s₁.setTop (entryFrame m #[(.ref a)] 1)) t := fun t kt => S1 t (st2 _ kt)
  obtain ⟨fs, hr, hrun, hended, hW, hsame⟩ := X2.leave (v := some (.ref fv)) (fun h => by rw [Bd.returns] at h; cases h)
  refine ⟨_, _, S3 _ ?_, hrun, hended, _, _, rfl, ?_, ⟨_, rfl⟩, hW, hsame.mono (by decide) (by decide)⟩
  · show Steps p.tables e below (T2.setTop (mkF m 4 #[.val (.ref a)] [(.ref fv)])) _
    jvm_step X2.here [X2.here.top, hx, (hb hby own_d10_4), X2.method', Bd.returns, Value.isRef, FieldType.isReference]
    first | (intro acts; rw [hr _ acts rfl rfl rfl]) | rw [hr _ _ rfl rfl rfl]
    exact Steps.refl _
  · show own_Q10 Z a fv h0 n0 _ T2.heap _
    rw [e2]
    exact ⟨rfl, rfl, rfl⟩
theorem own_d11_0 : decode prog_49_method_8_code 0 = .ok (.aload_n 0, 1) := by decide +kernel
theorem own_d11_1 : decode prog_49_method_8_code 1 = .ok (.getfield 13, 3) := by decide +kernel
theorem own_d11_4 : decode prog_49_method_8_code 4 = .ok (.areturn, 1) := by decide +kernel
theorem own_ef11 (m : MethodId) (x0 : Addr) : entryFrame m #[(.ref x0)] 1 = mkF m 0 #[.val (.ref x0)] [] := by first | (simp [entryFrame, mkF, argsToLocals, Value.category]; done) | rfl
def own_Q11 (Z : State) (a : Addr) (fv : Addr) (h0 : Heap) (n0 : Nat) (v : Option Value) (h : Heap) (L : List Loc) : Prop := v = some (.ref fv) ∧ L = [] ∧ h = h0
set_option maxHeartbeats 40000000 in
theorem own_rm11 (l : Launch) (Z : State) (a0 : Array Value) (hw : ∀ d ∈ tables_1, d.before a0 Z = true) (ws : List Jvm.Cond) (a : Addr) (fv : Addr) (h0 : Heap) (n0 : Nat) (Z0 : n0 ≤ h0.size) (F_record : Fld Z h0 a "com/example/nestwarden/nestwarden/store/Journal$Change" "record" "[B" (.ref fv)) :
    MetFree l (⟨"com/example/nestwarden/nestwarden/store/Journal$Change", "record", "()[B"⟩ : MethodName) (head1 (Jvm.Cond.code (⟨"com/example/nestwarden/nestwarden/store/Journal$Change", "record", "()[B"⟩ : MethodName) prog_49_method_8_code 1 (some (.array .byte)) :: ws) ({ frames := 0, cells := 0, slots := 0, locals := 0 } : Room)) (fun argv U => argv = #[(.ref a)] ∧ Z.Warmed39 U.vm ∧ U.heap = h0) (fun _ _ _ _ _ => True) (fun _ U o U' => ∃ v L, o = .returned v ∧ own_Q11 Z a fv h0 n0 v U'.heap L ∧ FrameEnd U o U' L ({ frames := 0, cells := 0, slots := 0, locals := 0 } : Room).cells ({ frames := 0, cells := 0, slots := 0, locals := 0 } : Room).slots) := by
  refine MetFree.of_bodySF (plainFor_of_name own_pn1) hisR ?_
  intro p e s m args below meth c s₁ Bd hml0 hP hK
  obtain ⟨rfl, hZ, hh⟩ := hP
  have hx := Bd.exec
  have hby := Bd.bytes
  have hml : c.maxLocals = 1 := hml0
  have hown : s.vm.findClass "com/example/nestwarden/nestwarden/store/Journal$Change" = some m.cls := findClass_of_methodNamed Bd.named
  have hnm := (name_of_methodNamed Bd.named Bd.method).1
  have X0 : Stand p l e ({ frames := 0, cells := 0, slots := 0, locals := 0 } : Room) s m #[(.ref a)] below meth c s₁ [] 0 0 := Stand.of_body Bd
  have e0 : s₁.heap = h0 := by rw [← hh, Bd.state]; rfl
  have N0 := Fr.nil n0
  have pre0 : ∀ t, Steps p.tables e below (s₁.setTop (mkF m 0 #[.val (.ref a)] [])) t → Steps p.tables e below (s₁.setTop (entryFrame m #[(.ref a)] 1)) t := fun t k => castTop (own_ef11 m a) k
  have S1 : ∀ t, Steps p.tables e below (s₁.setTop (mkF m 1 #[.val (.ref a)] [(.ref a)])) t → Steps p.tables e below (s₁.setTop (entryFrame m #[(.ref a)] 1)) t := fun t kt => by
    refine pre0 t ?_
    show Steps p.tables e below (s₁.setTop (mkF m 0 #[.val (.ref a)] [])) t
    refine XS.aloadN X0.here hx rfl (hb hby own_d11_0) rfl rfl ?_
    exact kt
  obtain ⟨T2, X2, e2, st2⟩ := getF X0 hx hZ hown (host := "") (Or.inl (hw _ (List.mem_of_getElem? (i := 56) rfl))) Via.refl e0 F_record (g := (mkF m 1 #[.val (.ref a)] [(.ref a)])) rfl rfl (hb hby own_d11_1)
  have S3 : ∀ t, Steps p.tables e below (T2.setTop (mkF m 4 #[.val (.ref a)] [(.ref fv)])) t → Steps p.tables e below (s₁.setTop (entryFrame m #[(.ref a)] 1)) t := fun t kt => S1 t (st2 _ kt)
  obtain ⟨fs, hr, hrun, hended, hW, hsame⟩ := X2.leave (v := some (.ref fv)) (fun h => by rw [Bd.returns] at h; cases h)
  refine ⟨_, _, S3 _ ?_, hrun, hended, _, _, rfl, ?_, ⟨_, rfl⟩, hW, hsame.mono (by decide) (by decide)⟩
  · show Steps p.tables e below (T2.setTop (mkF m 4 #[.val (.ref a)] [(.ref fv)])) _
    jvm_step X2.here [X2.here.top, hx, (hb hby own_d11_4), X2.method', Bd.returns, Value.isRef, FieldType.isReference]
    first | (intro acts; rw [hr _ acts rfl rfl rfl]) | rw [hr _ _ rfl rfl rfl]
    exact Steps.refl _
  · show own_Q11 Z a fv h0 n0 _ T2.heap _
    rw [e2]
    exact ⟨rfl, rfl, rfl⟩
theorem own_pd6 : parseMethodDescriptor "([C)V" = some ⟨[(.array .char)], none⟩ := by decide +kernel
theorem own_pd7 : parseMethodDescriptor "(Ljava/lang/String;[B)Lcom/example/nestwarden/nestwarden/store/Journal$Change;" = some ⟨[(.object "java/lang/String"), (.array .byte)], some (.object "com/example/nestwarden/nestwarden/store/Journal$Change")⟩ := by decide +kernel
theorem own_pd8 : parseMethodDescriptor "()Ljava/lang/String;" = some ⟨[], some (.object "java/lang/String")⟩ := by decide +kernel
theorem own_pd9 : parseMethodDescriptor "()[B" = some ⟨[], some (.array .byte)⟩ := by decide +kernel
theorem own_pd10 : parseMethodDescriptor "(Ljava/lang/Object;)Z" = some ⟨[(.object "java/lang/Object")], some .boolean⟩ := by decide +kernel
theorem own_pd11 : parseMethodDescriptor "([BBBB)Z" = some ⟨[(.array .byte), .byte, .byte, .byte], some .boolean⟩ := by decide +kernel
theorem own_pd12 : parseMethodDescriptor "([B)V" = some ⟨[(.array .byte)], none⟩ := by decide +kernel
theorem own_ef0 (m : MethodId) (x0 : Int32) (x1 : Int32) (x2 : Int32) (x3 : Int32) (x4 : Int32) : entryFrame m #[(.int x0), (.int x1), (.int x2), (.int x3), (.int x4)] maxLocals = mkF m 0 #[.val (.int x0), .val (.int x1), .val (.int x2), .val (.int x3), .val (.int x4), .unset, .unset, .unset, .unset, .unset, .unset, .unset, .unset, .unset, .unset, .unset, .unset, .unset, .unset] [] := by first | (simp [entryFrame, mkF, argsToLocals, Value.category, maxLocals]; done) | rfl
def own_Q0 (Z : State) (kc : Int32) (lens : Int32) (q0 : Int32) (q1 : Int32) (q2 : Int32) (cs : Int32) (h0 : Heap) (n0 : Nat) (v : Option Value) (h : Heap) (L : List Loc) : Prop := v = some (.int (1 : Int32)) ∧ Fr n0 L
set_option maxHeartbeats 40000000 in
theorem own_rm0 (l : Launch) (Z : State) (a0 : Array Value) (hw : ∀ d ∈ tables_1, d.before a0 Z = true) (ws : List Jvm.Cond) (kc : Int32) (lens : Int32) (q0 : Int32) (q1 : Int32) (q2 : Int32) (cs : Int32) (h0 : Heap) (n0 : Nat) (Z0 : n0 ≤ h0.size) (S_CS : Sta Z h0 "java/lang/String" "COMPACT_STRINGS" "Z" (.int cs)) (hcs : ¬ cs = (0 : Int32)) :
    MetFree l x (head1 (Jvm.Cond.code x code maxLocals ret :: ws) room_1) (fun argv U => argv = #[(.int kc), (.int lens), (.int q0), (.int q1), (.int q2)] ∧ Z.Warmed39 U.vm ∧ U.heap = h0 ∧ CHv Z own_EL U.vm h0) (fun _ _ _ _ _ => True) (fun _ U o U' => ∃ v L, o = .returned v ∧ own_Q0 Z kc lens q0 q1 q2 cs h0 n0 v U'.heap L ∧ CHr Z own_EL U.vm U.heap U'.vm U'.heap ∧ ReturnedEndW U o U' L room_1.cells room_1.slots) := by
  refine MetFree.of_bodySF (plainFor_of_name own_pn4) hisR ?_
  intro p e s m args below meth c s₁ Bd hml0 hP hK
  obtain ⟨rfl, hZ, hh, hC0⟩ := hP
  have hx := Bd.exec
  have hby := Bd.bytes
  have hml : c.maxLocals = 19 := hml0
  have hown : s.vm.findClass "com/example/nestwarden/nestwarden/store/ChangeKeepPinLaw" = some m.cls := findClass_of_methodNamed Bd.named
  have hnm := (name_of_methodNamed Bd.named Bd.method).1
  have X0 : Stand p l e room_1 (s.setVm s.vm) m #[(.int kc), (.int lens), (.int q0), (.int q1), (.int q2)] below meth c s₁ [] 0 0 := Stand.of_body Bd
  have e0 : s₁.heap = h0 := by rw [← hh, Bd.state]; rfl
  have N0 := Fr.nil n0
  have pre0 : ∀ t, Steps p.tables e below (s₁.setTop (mkF m 0 #[.val (.int kc), .val (.int lens), .val (.int q0), .val (.int q1), .val (.int q2), .unset, .unset, .unset, .unset, .unset, .unset, .unset, .unset, .unset, .unset, .unset, .unset, .unset, .unset] [])) t → Steps p.tables e below (s₁.setTop (entryFrame m #[(.int kc), (.int lens), (.int q0), (.int q1), (.int q2)] maxLocals)) t := fun t k => castTop (own_ef0 m kc lens q0 q1 q2) k
  have CR0 : CHr Z own_EL s.vm h0 s.vm h0 := CHr.refl hC0
  have hEL := own_EW hw
  have hS0 : s.Since s.vm h0.size := (State.WarmedH.refl s).since _
  have wS := own_wS hw
  have S1 : ∀ t, Steps p.tables e below (s₁.setTop (mkF m 42 #[.val (.int kc), .val (.int lens), .val (.int q0), .val (.int q1), .val (.int q2), .val (.int (lens &&& (3 : Int32))), .val (.int (((lens.toUInt32 >>> ((2 : Int32) &&& 31).toUInt32).toInt32) &&& (3 : Int32))), .val (.int ((kc &&& (255 : Int32)).toUInt32.toUInt16.toUInt32.toInt32)), .val (.int ((((kc.toUInt32 >>> ((8 : Int32) &&& 31).toUInt32).toInt32) &&& (255 : Int32)).toUInt32.toUInt16.toUInt32.toInt32)), .val (.int ((((kc.toUInt32 >>> ((16 : Int32) &&& 31).toUInt32).toInt32) &&& (255 : Int32)).toUInt32.toUInt16.toUInt32.toInt32)), .unset, .unset, .unset, .unset, .unset, .unset, .unset, .unset, .unset] [])) t → Steps p.tables e below (s₁.setTop (entryFrame m #[(.int kc), (.int lens), (.int q0), (.int q1), (.int q2)] maxLocals)) t := fun t kt => by
    refine pre0 t ?_
    show Steps p.tables e below (s₁.setTop (mkF m 0 #[.val (.int kc), .val (.int lens), .val (.int q0), .val (.int q1), .val (.int q2), .unset, .unset, .unset, .unset, .unset, .unset, .unset, .unset, .unset, .unset, .unset, .unset, .unset, .unset] [])) t
    refine XS.iloadN X0.here hx rfl (hb hby at_0) rfl ?_
    refine XS.iconst X0.here hx rfl (hb hby at_1) ?_
    refine XS.iand X0.here hx rfl (hb hby at_2) rfl ?_
    refine XS.istore X0.here hx rfl (hb hby at_3) rfl (l' := #[.val (.int kc), .val (.int lens), .val (.int q0), .val (.int q1), .val (.int q2), .val (.int (lens &&& (3 : Int32))), .unset, .unset, .unset, .unset, .unset, .unset, .unset, .unset, .unset, .unset, .unset, .unset, .unset]) rfl ?_
    refine XS.iloadN X0.here hx rfl (hb hby at_5) rfl ?_
    refine XS.iconst X0.here hx rfl (hb hby at_6) ?_
    refine XS.iushr X0.here hx rfl (hb hby at_7) rfl ?_
    refine XS.iconst X0.here hx rfl (hb hby at_8) ?_
    refine XS.iand X0.here hx rfl (hb hby at_9) rfl ?_
    refine XS.istore X0.here hx rfl (hb hby at_10) rfl (l' := #[.val (.int kc), .val (.int lens), .val (.int q0), .val (.int q1), .val (.int q2), .val (.int (lens &&& (3 : Int32))), .val (.int (((lens.toUInt32 >>> ((2 : Int32) &&& 31).toUInt32).toInt32) &&& (3 : Int32))), .unset, .unset, .unset, .unset, .unset, .unset, .unset, .unset, .unset, .unset, .unset, .unset]) rfl ?_
    refine XS.iloadN X0.here hx rfl (hb hby at_12) rfl ?_
    refine XS.sipush X0.here hx rfl (hb hby at_13) ?_
    refine XS.iand X0.here hx rfl (hb hby at_16) rfl ?_
    refine XS.i2c X0.here hx rfl (hb hby at_17) rfl ?_
    refine XS.istore X0.here hx rfl (hb hby at_18) rfl (l' := #[.val (.int kc), .val (.int lens), .val (.int q0), .val (.int q1), .val (.int q2), .val (.int (lens &&& (3 : Int32))), .val (.int (((lens.toUInt32 >>> ((2 : Int32) &&& 31).toUInt32).toInt32) &&& (3 : Int32))), .val (.int ((kc &&& (255 : Int32)).toUInt32.toUInt16.toUInt32.toInt32)), .unset, .unset, .unset, .unset, .unset, .unset, .unset, .unset, .unset, .unset, .unset]) rfl ?_
    refine XS.iloadN X0.here hx rfl (hb hby at_20) rfl ?_
    refine XS.bipush X0.here hx rfl (hb hby at_21) ?_
    refine XS.iushr X0.here hx rfl (hb hby at_23) rfl ?_
    refine XS.sipush X0.here hx rfl (hb hby at_24) ?_
    refine XS.iand X0.here hx rfl (hb hby at_27) rfl ?_
    refine XS.i2c X0.here hx rfl (hb hby at_28) rfl ?_
    refine XS.istore X0.here hx rfl (hb hby at_29) rfl (l' := #[.val (.int kc), .val (.int lens), .val (.int q0), .val (.int q1), .val (.int q2), .val (.int (lens &&& (3 : Int32))), .val (.int (((lens.toUInt32 >>> ((2 : Int32) &&& 31).toUInt32).toInt32) &&& (3 : Int32))), .val (.int ((kc &&& (255 : Int32)).toUInt32.toUInt16.toUInt32.toInt32)), .val (.int ((((kc.toUInt32 >>> ((8 : Int32) &&& 31).toUInt32).toInt32) &&& (255 : Int32)).toUInt32.toUInt16.toUInt32.toInt32)), .unset, .unset, .unset, .unset, .unset, .unset, .unset, .unset, .unset, .unset]) rfl ?_
    refine XS.iloadN X0.here hx rfl (hb hby at_31) rfl ?_
    refine XS.bipush X0.here hx rfl (hb hby at_32) ?_
    refine XS.iushr X0.here hx rfl (hb hby at_34) rfl ?_
    refine XS.sipush X0.here hx rfl (hb hby at_35) ?_
    refine XS.iand X0.here hx rfl (hb hby at_38) rfl ?_
    refine XS.i2c X0.here hx rfl (hb hby at_39) rfl ?_
    refine XS.istore X0.here hx rfl (hb hby at_40) rfl (l' := #[.val (.int kc), .val (.int lens), .val (.int q0), .val (.int q1), .val (.int q2), .val (.int (lens &&& (3 : Int32))), .val (.int (((lens.toUInt32 >>> ((2 : Int32) &&& 31).toUInt32).toInt32) &&& (3 : Int32))), .val (.int ((kc &&& (255 : Int32)).toUInt32.toUInt16.toUInt32.toInt32)), .val (.int ((((kc.toUInt32 >>> ((8 : Int32) &&& 31).toUInt32).toInt32) &&& (255 : Int32)).toUInt32.toUInt16.toUInt32.toInt32)), .val (.int ((((kc.toUInt32 >>> ((16 : Int32) &&& 31).toUInt32).toInt32) &&& (255 : Int32)).toUInt32.toUInt16.toUInt32.toInt32)), .unset, .unset, .unset, .unset, .unset, .unset, .unset, .unset, .unset]) rfl ?_
    exact kt
  obtain ⟨T2, h2, vm2, k2, Lj2, ky, X2, e2, hS2, hk2, hZ2, ho2, CRj2, Nj2, Kj2, Fj2_0, S2⟩ : ∃ (T' : State) (h' : Heap) (vm' : Vm) (k' : Nat) (Lc' : List Loc) (ky : Addr) , Stand p l e room_1 (s.setVm vm') m #[(.int kc), (.int lens), (.int q0), (.int q1), (.int q2)] below meth c T' Lc' 8 64 ∧ T'.heap = h' ∧ s.Since vm' k' ∧ k' ≤ h'.size ∧ Z.Warmed39 (s.setVm vm').vm ∧ (s.setVm vm').vm.findClass "com/example/nestwarden/nestwarden/store/ChangeKeepPinLaw" = some m.cls ∧ CHr Z own_EL s.vm h0 vm' h' ∧ Fr n0 Lc' ∧ Keep h0 h' [] ∧ (Exa Z h' ky "java/lang/String") ∧ (∀ t, Steps p.tables e below (T'.setTop (mkF m 146 #[.val (.int kc), .val (.int lens), .val (.int q0), .val (.int q1), .val (.int q2), .val (.int (lens &&& (3 : Int32))), .val (.int (((lens.toUInt32 >>> ((2 : Int32) &&& 31).toUInt32).toInt32) &&& (3 : Int32))), .val (.int ((kc &&& (255 : Int32)).toUInt32.toUInt16.toUInt32.toInt32)), .val (.int ((((kc.toUInt32 >>> ((8 : Int32) &&& 31).toUInt32).toInt32) &&& (255 : Int32)).toUInt32.toUInt16.toUInt32.toInt32)), .val (.int ((((kc.toUInt32 >>> ((16 : Int32) &&& 31).toUInt32).toInt32) &&& (255 : Int32)).toUInt32.toUInt16.toUInt32.toInt32)), .val (.ref ky), .unset, .unset, .unset, .unset, .unset, .unset, .unset, .unset] [])) t → Steps p.tables e below (s₁.setTop (entryFrame m #[(.int kc), (.int lens), (.int q0), (.int q1), (.int q2)] maxLocals)) t) := by
    have S3 : ∀ t, Steps p.tables e below (s₁.setTop (mkF m 44 #[.val (.int kc), .val (.int lens), .val (.int q0), .val (.int q1), .val (.int q2), .val (.int (lens &&& (3 : Int32))), .val (.int (((lens.toUInt32 >>> ((2 : Int32) &&& 31).toUInt32).toInt32) &&& (3 : Int32))), .val (.int ((kc &&& (255 : Int32)).toUInt32.toUInt16.toUInt32.toInt32)), .val (.int ((((kc.toUInt32 >>> ((8 : Int32) &&& 31).toUInt32).toInt32) &&& (255 : Int32)).toUInt32.toUInt16.toUInt32.toInt32)), .val (.int ((((kc.toUInt32 >>> ((16 : Int32) &&& 31).toUInt32).toInt32) &&& (255 : Int32)).toUInt32.toUInt16.toUInt32.toInt32)), .unset, .unset, .unset, .unset, .unset, .unset, .unset, .unset, .unset] [(.int (lens &&& (3 : Int32)))])) t → Steps p.tables e below (s₁.setTop (entryFrame m #[(.int kc), (.int lens), (.int q0), (.int q1), (.int q2)] maxLocals)) t := fun t kt => by
      refine S1 t ?_
      show Steps p.tables e below (s₁.setTop (mkF m 42 #[.val (.int kc), .val (.int lens), .val (.int q0), .val (.int q1), .val (.int q2), .val (.int (lens &&& (3 : Int32))), .val (.int (((lens.toUInt32 >>> ((2 : Int32) &&& 31).toUInt32).toInt32) &&& (3 : Int32))), .val (.int ((kc &&& (255 : Int32)).toUInt32.toUInt16.toUInt32.toInt32)), .val (.int ((((kc.toUInt32 >>> ((8 : Int32) &&& 31).toUInt32).toInt32) &&& (255 : Int32)).toUInt32.toUInt16.toUInt32.toInt32)), .val (.int ((((kc.toUInt32 >>> ((16 : Int32) &&& 31).toUInt32).toInt32) &&& (255 : Int32)).toUInt32.toUInt16.toUInt32.toInt32)), .unset, .unset, .unset, .unset, .unset, .unset, .unset, .unset, .unset] [])) t
      refine XS.iload X0.here hx rfl (hb hby at_42) rfl ?_
      exact kt
    by_cases hc44 : (lens &&& (3 : Int32)) = (0 : Int32)
    · skip
      have S4 : ∀ t, Steps p.tables e below (s₁.setTop (mkF m 47 #[.val (.int kc), .val (.int lens), .val (.int q0), .val (.int q1), .val (.int q2), .val (.int (lens &&& (3 : Int32))), .val (.int (((lens.toUInt32 >>> ((2 : Int32) &&& 31).toUInt32).toInt32) &&& (3 : Int32))), .val (.int ((kc &&& (255 : Int32)).toUInt32.toUInt16.toUInt32.toInt32)), .val (.int ((((kc.toUInt32 >>> ((8 : Int32) &&& 31).toUInt32).toInt32) &&& (255 : Int32)).toUInt32.toUInt16.toUInt32.toInt32)), .val (.int ((((kc.toUInt32 >>> ((16 : Int32) &&& 31).toUInt32).toInt32) &&& (255 : Int32)).toUInt32.toUInt16.toUInt32.toInt32)), .unset, .unset, .unset, .unset, .unset, .unset, .unset, .unset, .unset] [])) t → Steps p.tables e below (s₁.setTop (entryFrame m #[(.int kc), (.int lens), (.int q0), (.int q1), (.int q2)] maxLocals)) t := fun t kt => by
        refine S3 t ?_
        show Steps p.tables e below (s₁.setTop (mkF m 44 #[.val (.int kc), .val (.int lens), .val (.int q0), .val (.int q1), .val (.int q2), .val (.int (lens &&& (3 : Int32))), .val (.int (((lens.toUInt32 >>> ((2 : Int32) &&& 31).toUInt32).toInt32) &&& (3 : Int32))), .val (.int ((kc &&& (255 : Int32)).toUInt32.toUInt16.toUInt32.toInt32)), .val (.int ((((kc.toUInt32 >>> ((8 : Int32) &&& 31).toUInt32).toInt32) &&& (255 : Int32)).toUInt32.toUInt16.toUInt32.toInt32)), .val (.int ((((kc.toUInt32 >>> ((16 : Int32) &&& 31).toUInt32).toInt32) &&& (255 : Int32)).toUInt32.toUInt16.toUInt32.toInt32)), .unset, .unset, .unset, .unset, .unset, .unset, .unset, .unset, .unset] [(.int (lens &&& (3 : Int32)))])) t
        refine XS.ifNo X0.here hx rfl (hb hby at_44) rfl ((if0 _ _).trans (teq hc44).2) ?_
        exact kt
      obtain ⟨T5, h5, X5, e5, E5, A5, D5, -, st5⟩ := newO X0 hx hZ hown (hw _ (List.mem_of_getElem? (i := 0) rfl)) (hw _ (List.mem_of_getElem? (i := 1) rfl)) (hw _ (List.mem_of_getElem? (i := 2) rfl)) e0 (g := (mkF m 47 #[.val (.int kc), .val (.int lens), .val (.int q0), .val (.int q1), .val (.int q2), .val (.int (lens &&& (3 : Int32))), .val (.int (((lens.toUInt32 >>> ((2 : Int32) &&& 31).toUInt32).toInt32) &&& (3 : Int32))), .val (.int ((kc &&& (255 : Int32)).toUInt32.toUInt16.toUInt32.toInt32)), .val (.int ((((kc.toUInt32 >>> ((8 : Int32) &&& 31).toUInt32).toInt32) &&& (255 : Int32)).toUInt32.toUInt16.toUInt32.toInt32)), .val (.int ((((kc.toUInt32 >>> ((16 : Int32) &&& 31).toUInt32).toInt32) &&& (255 : Int32)).toUInt32.toUInt16.toUInt32.toInt32)), .unset, .unset, .unset, .unset, .unset, .unset, .unset, .unset, .unset] [])) rfl (hb hby at_47) (by decide) (by decide)
      obtain ⟨b5, g5⟩ : ∃ z, z = h0.size := ⟨_, rfl⟩
      rw [← g5] at A5 D5 st5
      have S6 : ∀ t, Steps p.tables e below (T5.setTop (mkF m 50 #[.val (.int kc), .val (.int lens), .val (.int q0), .val (.int q1), .val (.int q2), .val (.int (lens &&& (3 : Int32))), .val (.int (((lens.toUInt32 >>> ((2 : Int32) &&& 31).toUInt32).toInt32) &&& (3 : Int32))), .val (.int ((kc &&& (255 : Int32)).toUInt32.toUInt16.toUInt32.toInt32)), .val (.int ((((kc.toUInt32 >>> ((8 : Int32) &&& 31).toUInt32).toInt32) &&& (255 : Int32)).toUInt32.toUInt16.toUInt32.toInt32)), .val (.int ((((kc.toUInt32 >>> ((16 : Int32) &&& 31).toUInt32).toInt32) &&& (255 : Int32)).toUInt32.toUInt16.toUInt32.toInt32)), .unset, .unset, .unset, .unset, .unset, .unset, .unset, .unset, .unset] [(.ref b5)])) t → Steps p.tables e below (s₁.setTop (entryFrame m #[(.int kc), (.int lens), (.int q0), (.int q1), (.int q2)] maxLocals)) t := fun t kt => S4 t (st5 _ kt)
      have Sf_b5 : Safe Z own_EL s.vm h5 b5 := Safe.ext E5 CR0.1 (Safe.new (Nat.le_of_eq g5.symm))
      have CR7 := CR0.trans (CHr.ext E5 CR0.1)
      have g_b5 : n0 ≤ b5 := Nat.le_trans Z0 (Nat.le_of_eq g5.symm)
      have sz_b5 : h0.size ≤ b5 := Nat.le_trans (Keep.refl h0 []).1 (Nat.le_of_eq g5.symm)
      have F8 := S_CS.ext E5
      have K9 : Keep h0 h5 [] := (Keep.refl h0 []).ext E5
      have F10 : Fld Z h5 b5 "java/lang/String" "coder" "B" (.int (0 : Int32)) := D5 (Or.inr (hw _ (List.mem_of_getElem? (i := 27) rfl))) (ty := .byte) (by decide)
      have F11 : Fld Z h5 b5 "java/lang/String" "value" "[B" .null := D5 (Or.inr (hw _ (List.mem_of_getElem? (i := 29) rfl))) (ty := (.array .byte)) (by decide)
      have S12 : ∀ t, Steps p.tables e below (T5.setTop (mkF m 52 #[.val (.int kc), .val (.int lens), .val (.int q0), .val (.int q1), .val (.int q2), .val (.int (lens &&& (3 : Int32))), .val (.int (((lens.toUInt32 >>> ((2 : Int32) &&& 31).toUInt32).toInt32) &&& (3 : Int32))), .val (.int ((kc &&& (255 : Int32)).toUInt32.toUInt16.toUInt32.toInt32)), .val (.int ((((kc.toUInt32 >>> ((8 : Int32) &&& 31).toUInt32).toInt32) &&& (255 : Int32)).toUInt32.toUInt16.toUInt32.toInt32)), .val (.int ((((kc.toUInt32 >>> ((16 : Int32) &&& 31).toUInt32).toInt32) &&& (255 : Int32)).toUInt32.toUInt16.toUInt32.toInt32)), .unset, .unset, .unset, .unset, .unset, .unset, .unset, .unset, .unset] [(.int (0 : Int32)), (.ref b5), (.ref b5)])) t → Steps p.tables e below (s₁.setTop (entryFrame m #[(.int kc), (.int lens), (.int q0), (.int q1), (.int q2)] maxLocals)) t := fun t kt => by
        refine S6 t ?_
        show Steps p.tables e below (T5.setTop (mkF m 50 #[.val (.int kc), .val (.int lens), .val (.int q0), .val (.int q1), .val (.int q2), .val (.int (lens &&& (3 : Int32))), .val (.int (((lens.toUInt32 >>> ((2 : Int32) &&& 31).toUInt32).toInt32) &&& (3 : Int32))), .val (.int ((kc &&& (255 : Int32)).toUInt32.toUInt16.toUInt32.toInt32)), .val (.int ((((kc.toUInt32 >>> ((8 : Int32) &&& 31).toUInt32).toInt32) &&& (255 : Int32)).toUInt32.toUInt16.toUInt32.toInt32)), .val (.int ((((kc.toUInt32 >>> ((16 : Int32) &&& 31).toUInt32).toInt32) &&& (255 : Int32)).toUInt32.toUInt16.toUInt32.toInt32)), .unset, .unset, .unset, .unset, .unset, .unset, .unset, .unset, .unset] [(.ref b5)])) t
        refine XS.dup X5.here hx rfl (hb hby at_50) rfl rfl ?_
        refine XS.iconst X5.here hx rfl (hb hby at_51) ?_
        exact kt
      obtain ⟨T13, h13, k13, X13, e13, E13, A13, st13⟩ := newP X5 hx hZ (hw _ (List.mem_of_getElem? (i := 3) rfl)) e5 (g := (mkF m 52 #[.val (.int kc), .val (.int lens), .val (.int q0), .val (.int q1), .val (.int q2), .val (.int (lens &&& (3 : Int32))), .val (.int (((lens.toUInt32 >>> ((2 : Int32) &&& 31).toUInt32).toInt32) &&& (3 : Int32))), .val (.int ((kc &&& (255 : Int32)).toUInt32.toUInt16.toUInt32.toInt32)), .val (.int ((((kc.toUInt32 >>> ((8 : Int32) &&& 31).toUInt32).toInt32) &&& (255 : Int32)).toUInt32.toUInt16.toUInt32.toInt32)), .val (.int ((((kc.toUInt32 >>> ((16 : Int32) &&& 31).toUInt32).toInt32) &&& (255 : Int32)).toUInt32.toUInt16.toUInt32.toInt32)), .unset, .unset, .unset, .unset, .unset, .unset, .unset, .unset, .unset] [(.int (0 : Int32)), (.ref b5), (.ref b5)])) rfl (hb hby at_52) rfl (by decide) (cap := 0) (by decide) (by decide) (by decide) (by decide)
      obtain ⟨b13, g13⟩ : ∃ z, z = h5.size := ⟨_, rfl⟩
      rw [← g13] at A13 st13
      have S14 : ∀ t, Steps p.tables e below (T13.setTop (mkF m 54 #[.val (.int kc), .val (.int lens), .val (.int q0), .val (.int q1), .val (.int q2), .val (.int (lens &&& (3 : Int32))), .val (.int (((lens.toUInt32 >>> ((2 : Int32) &&& 31).toUInt32).toInt32) &&& (3 : Int32))), .val (.int ((kc &&& (255 : Int32)).toUInt32.toUInt16.toUInt32.toInt32)), .val (.int ((((kc.toUInt32 >>> ((8 : Int32) &&& 31).toUInt32).toInt32) &&& (255 : Int32)).toUInt32.toUInt16.toUInt32.toInt32)), .val (.int ((((kc.toUInt32 >>> ((16 : Int32) &&& 31).toUInt32).toInt32) &&& (255 : Int32)).toUInt32.toUInt16.toUInt32.toInt32)), .unset, .unset, .unset, .unset, .unset, .unset, .unset, .unset, .unset] [(.ref b13), (.ref b5), (.ref b5)])) t → Steps p.tables e below (s₁.setTop (entryFrame m #[(.int kc), (.int lens), (.int q0), (.int q1), (.int q2)] maxLocals)) t := fun t kt => S12 t (st13 _ kt)
      have Sf_b13 : Safe Z own_EL s.vm h13 b13 := Safe.ext E13 CR7.1 (Safe.new (Nat.le_of_eq g13.symm))
      have Sf15 := Safe.ext E13 CR7.1 Sf_b5
      have CR16 := CR7.trans (CHr.ext E13 CR7.1)
      have g_b13 : n0 ≤ b13 := Nat.le_trans (Nat.le_trans Z0 K9.1) (Nat.le_of_eq g13.symm)
      have sz_b13 : h0.size ≤ b13 := Nat.le_trans K9.1 (Nat.le_of_eq g13.symm)
      have ne_b5_b13 : b5 ≠ b13 := Nat.ne_of_lt (Nat.lt_of_lt_of_le A5.lt (Nat.le_of_eq g13.symm))
      have F17 := F8.ext E13
      have F18 := A5.ext E13
      have F19 := F10.ext E13
      have F20 := F11.ext E13
      have K21 : Keep h0 h13 [] := K9.ext E13
      have V22 : Arv Z h13 b13 k13 .char (0 : Int32) [] (.int (0 : Int32)) := Arv.new A13 (by decide)
      obtain ⟨_, _, ⟨T25, L25, k25, n25⟩, -, X25_, hSr25, hgr25, ⟨Lc25, hQ25, l25, y25, z25, hCr25⟩, st25⟩ := X13.specialBackS hx (y := (⟨"java/lang/String", "<init>", "([C)V"⟩ : MethodName)) rfl hown (mvT hZ (hw _ (List.mem_of_getElem? (i := 4) rfl))) (mvT hZ (hw _ (List.mem_of_getElem? (i := 5) rfl))) (mvT hZ (hw _ (List.mem_of_getElem? (i := 6) rfl))) (by decide) (own_backSE (EL := own_EL) (s := s) (vm0 := s.vm) (W := 1) (own_rm1k0 l Z a0 hw [] (b5) (b13) (k13) (.null) ((.int (0 : Int32))) h13 n0 (Nat.le_trans Z0 K21.1) F18 g_b5 F20 F19 V22) hZ (hw _ (List.mem_of_getElem? (i := 6) rfl)) (hw _ (List.mem_of_getElem? (i := 2) rfl)) (by decide) (by decide) hEL CR16.1 (fun _ A => A.safe (F18.lt) Sf15)) (g := (mkF m 54 #[.val (.int kc), .val (.int lens), .val (.int q0), .val (.int q1), .val (.int q2), .val (.int (lens &&& (3 : Int32))), .val (.int (((lens.toUInt32 >>> ((2 : Int32) &&& 31).toUInt32).toInt32) &&& (3 : Int32))), .val (.int ((kc &&& (255 : Int32)).toUInt32.toUInt16.toUInt32.toInt32)), .val (.int ((((kc.toUInt32 >>> ((8 : Int32) &&& 31).toUInt32).toInt32) &&& (255 : Int32)).toUInt32.toUInt16.toUInt32.toInt32)), .val (.int ((((kc.toUInt32 >>> ((16 : Int32) &&& 31).toUInt32).toInt32) &&& (255 : Int32)).toUInt32.toUInt16.toUInt32.toInt32)), .unset, .unset, .unset, .unset, .unset, .unset, .unset, .unset, .unset] [(.ref b13), (.ref b5), (.ref b5)])) rfl (by rw [hml]; rfl) (Steps.refl _) (a := b5) (argsL := [(.ref b13)]) (rest := [(.ref b5)]) (lenOf own_pd6 rfl) rfl (by show 2 * 0 + _ ≤ _; exact Nat.le_of_eq rfl) (hb hby at_54) (fun _ _ => ⟨rfl, e13, (by decide : 2 + 4 ≤ _), (by decide : 4 + 8 ≤ _)⟩)
      dsimp only [Pt.U, Pt.locs, Pt.cells, Pt.slots] at X25_ hSr25 hgr25 l25 y25 z25 hCr25 st25 hQ25
      subst l25 y25 z25
      obtain ⟨X25, hS25, hZ25, ho25⟩ := rebS hS0 (by rw [e13]; exact (Nat.le_trans (Nat.le_trans (Nat.le_refl _) E5.1) E13.1)) X25_ hSr25 hgr25 hZ hown
      obtain ⟨rfl, Nq25, Kc23, Ec23, Cc23, tb23, kt23, nat23, Fv23, Va23⟩ := hQ25
      have N26 := Fr.app N0 Nq25
      have S27 : ∀ t, Steps p.tables e below (T25.setTop (mkF m 57 #[.val (.int kc), .val (.int lens), .val (.int q0), .val (.int q1), .val (.int q2), .val (.int (lens &&& (3 : Int32))), .val (.int (((lens.toUInt32 >>> ((2 : Int32) &&& 31).toUInt32).toInt32) &&& (3 : Int32))), .val (.int ((kc &&& (255 : Int32)).toUInt32.toUInt16.toUInt32.toInt32)), .val (.int ((((kc.toUInt32 >>> ((8 : Int32) &&& 31).toUInt32).toInt32) &&& (255 : Int32)).toUInt32.toUInt16.toUInt32.toInt32)), .val (.int ((((kc.toUInt32 >>> ((16 : Int32) &&& 31).toUInt32).toInt32) &&& (255 : Int32)).toUInt32.toUInt16.toUInt32.toInt32)), .unset, .unset, .unset, .unset, .unset, .unset, .unset, .unset, .unset] [(.ref b5)])) t → Steps p.tables e below (s₁.setTop (entryFrame m #[(.int kc), (.int lens), (.int q0), (.int q1), (.int q2)] maxLocals)) t := fun t kt => S14 t (st25.trans kt)
      have Sf28 := hCr25.safe (F18.lt) Sf15
      have Sf29 := hCr25.safe (V22.lt) Sf_b13
      have CR30 := CR16.trans hCr25
      have F31 := own_StaK F17 Kc23 (allS (own_ExaS F18) all0)
      have F32 := F18.keep Kc23
      have F33 := V22.keep Kc23 (ninS (Ne.symm ne_b5_b13) nin0)
      have K34 : Keep h0 T25.heap [] := K21.trans Kc23 (allS (Or.inr sz_b5) all0)
      have S35 : ∀ t, Steps p.tables e below (T25.setTop (mkF m 146 #[.val (.int kc), .val (.int lens), .val (.int q0), .val (.int q1), .val (.int q2), .val (.int (lens &&& (3 : Int32))), .val (.int (((lens.toUInt32 >>> ((2 : Int32) &&& 31).toUInt32).toInt32) &&& (3 : Int32))), .val (.int ((kc &&& (255 : Int32)).toUInt32.toUInt16.toUInt32.toInt32)), .val (.int ((((kc.toUInt32 >>> ((8 : Int32) &&& 31).toUInt32).toInt32) &&& (255 : Int32)).toUInt32.toUInt16.toUInt32.toInt32)), .val (.int ((((kc.toUInt32 >>> ((16 : Int32) &&& 31).toUInt32).toInt32) &&& (255 : Int32)).toUInt32.toUInt16.toUInt32.toInt32)), .val (.ref b5), .unset, .unset, .unset, .unset, .unset, .unset, .unset, .unset] [])) t → Steps p.tables e below (s₁.setTop (entryFrame m #[(.int kc), (.int lens), (.int q0), (.int q1), (.int q2)] maxLocals)) t := fun t kt => by
        refine S27 t ?_
        show Steps p.tables e below (T25.setTop (mkF m 57 #[.val (.int kc), .val (.int lens), .val (.int q0), .val (.int q1), .val (.int q2), .val (.int (lens &&& (3 : Int32))), .val (.int (((lens.toUInt32 >>> ((2 : Int32) &&& 31).toUInt32).toInt32) &&& (3 : Int32))), .val (.int ((kc &&& (255 : Int32)).toUInt32.toUInt16.toUInt32.toInt32)), .val (.int ((((kc.toUInt32 >>> ((8 : Int32) &&& 31).toUInt32).toInt32) &&& (255 : Int32)).toUInt32.toUInt16.toUInt32.toInt32)), .val (.int ((((kc.toUInt32 >>> ((16 : Int32) &&& 31).toUInt32).toInt32) &&& (255 : Int32)).toUInt32.toUInt16.toUInt32.toInt32)), .unset, .unset, .unset, .unset, .unset, .unset, .unset, .unset, .unset] [(.ref b5)])) t
        refine XS.astore X25.here hx rfl (hb hby at_57) rfl rfl (l' := #[.val (.int kc), .val (.int lens), .val (.int q0), .val (.int q1), .val (.int q2), .val (.int (lens &&& (3 : Int32))), .val (.int (((lens.toUInt32 >>> ((2 : Int32) &&& 31).toUInt32).toInt32) &&& (3 : Int32))), .val (.int ((kc &&& (255 : Int32)).toUInt32.toUInt16.toUInt32.toInt32)), .val (.int ((((kc.toUInt32 >>> ((8 : Int32) &&& 31).toUInt32).toInt32) &&& (255 : Int32)).toUInt32.toUInt16.toUInt32.toInt32)), .val (.int ((((kc.toUInt32 >>> ((16 : Int32) &&& 31).toUInt32).toInt32) &&& (255 : Int32)).toUInt32.toUInt16.toUInt32.toInt32)), .val (.ref b5), .unset, .unset, .unset, .unset, .unset, .unset, .unset, .unset]) rfl ?_
        refine XS.goto X25.here hx rfl (pc0 := 59) (pc' := 146) rfl (hb hby at_59) (by decide) (by decide) ?_
        exact kt
      exact ⟨T25, T25.heap, T25.vm, _, _, (b5), X25.more (by decide) (by decide), rfl, hS25, (Nat.le_refl _), hZ25, ho25, CR30, N26, K34, Ec23, S35⟩
    · skip
      have S36 : ∀ t, Steps p.tables e below (s₁.setTop (mkF m 65 #[.val (.int kc), .val (.int lens), .val (.int q0), .val (.int q1), .val (.int q2), .val (.int (lens &&& (3 : Int32))), .val (.int (((lens.toUInt32 >>> ((2 : Int32) &&& 31).toUInt32).toInt32) &&& (3 : Int32))), .val (.int ((kc &&& (255 : Int32)).toUInt32.toUInt16.toUInt32.toInt32)), .val (.int ((((kc.toUInt32 >>> ((8 : Int32) &&& 31).toUInt32).toInt32) &&& (255 : Int32)).toUInt32.toUInt16.toUInt32.toInt32)), .val (.int ((((kc.toUInt32 >>> ((16 : Int32) &&& 31).toUInt32).toInt32) &&& (255 : Int32)).toUInt32.toUInt16.toUInt32.toInt32)), .unset, .unset, .unset, .unset, .unset, .unset, .unset, .unset, .unset] [(.int (1 : Int32)), (.int (lens &&& (3 : Int32)))])) t → Steps p.tables e below (s₁.setTop (entryFrame m #[(.int kc), (.int lens), (.int q0), (.int q1), (.int q2)] maxLocals)) t := fun t kt => by
        refine S3 t ?_
        show Steps p.tables e below (s₁.setTop (mkF m 44 #[.val (.int kc), .val (.int lens), .val (.int q0), .val (.int q1), .val (.int q2), .val (.int (lens &&& (3 : Int32))), .val (.int (((lens.toUInt32 >>> ((2 : Int32) &&& 31).toUInt32).toInt32) &&& (3 : Int32))), .val (.int ((kc &&& (255 : Int32)).toUInt32.toUInt16.toUInt32.toInt32)), .val (.int ((((kc.toUInt32 >>> ((8 : Int32) &&& 31).toUInt32).toInt32) &&& (255 : Int32)).toUInt32.toUInt16.toUInt32.toInt32)), .val (.int ((((kc.toUInt32 >>> ((16 : Int32) &&& 31).toUInt32).toInt32) &&& (255 : Int32)).toUInt32.toUInt16.toUInt32.toInt32)), .unset, .unset, .unset, .unset, .unset, .unset, .unset, .unset, .unset] [(.int (lens &&& (3 : Int32)))])) t
        refine XS.ifYes X0.here hx rfl (pc0 := 44) (pc' := 62) rfl (hb hby at_44) rfl ((if0 _ _).trans (feq hc44).2) (by decide) (by decide) ?_
        refine XS.iload X0.here hx rfl (hb hby at_62) rfl ?_
        refine XS.iconst X0.here hx rfl (hb hby at_64) ?_
        exact kt
      by_cases hc65 : (lens &&& (3 : Int32)) = (1 : Int32)
      · skip
        have S37 : ∀ t, Steps p.tables e below (s₁.setTop (mkF m 68 #[.val (.int kc), .val (.int lens), .val (.int q0), .val (.int q1), .val (.int q2), .val (.int (lens &&& (3 : Int32))), .val (.int (((lens.toUInt32 >>> ((2 : Int32) &&& 31).toUInt32).toInt32) &&& (3 : Int32))), .val (.int ((kc &&& (255 : Int32)).toUInt32.toUInt16.toUInt32.toInt32)), .val (.int ((((kc.toUInt32 >>> ((8 : Int32) &&& 31).toUInt32).toInt32) &&& (255 : Int32)).toUInt32.toUInt16.toUInt32.toInt32)), .val (.int ((((kc.toUInt32 >>> ((16 : Int32) &&& 31).toUInt32).toInt32) &&& (255 : Int32)).toUInt32.toUInt16.toUInt32.toInt32)), .unset, .unset, .unset, .unset, .unset, .unset, .unset, .unset, .unset] [])) t → Steps p.tables e below (s₁.setTop (entryFrame m #[(.int kc), (.int lens), (.int q0), (.int q1), (.int q2)] maxLocals)) t := fun t kt => by
          refine S36 t ?_
          show Steps p.tables e below (s₁.setTop (mkF m 65 #[.val (.int kc), .val (.int lens), .val (.int q0), .val (.int q1), .val (.int q2), .val (.int (lens &&& (3 : Int32))), .val (.int (((lens.toUInt32 >>> ((2 : Int32) &&& 31).toUInt32).toInt32) &&& (3 : Int32))), .val (.int ((kc &&& (255 : Int32)).toUInt32.toUInt16.toUInt32.toInt32)), .val (.int ((((kc.toUInt32 >>> ((8 : Int32) &&& 31).toUInt32).toInt32) &&& (255 : Int32)).toUInt32.toUInt16.toUInt32.toInt32)), .val (.int ((((kc.toUInt32 >>> ((16 : Int32) &&& 31).toUInt32).toInt32) &&& (255 : Int32)).toUInt32.toUInt16.toUInt32.toInt32)), .unset, .unset, .unset, .unset, .unset, .unset, .unset, .unset, .unset] [(.int (1 : Int32)), (.int (lens &&& (3 : Int32)))])) t
          refine XS.icmpNo X0.here hx rfl (hb hby at_65) rfl (teq hc65).2 ?_
          exact kt
        obtain ⟨T38, h38, X38, e38, E38, A38, D38, -, st38⟩ := newO X0 hx hZ hown (hw _ (List.mem_of_getElem? (i := 0) rfl)) (hw _ (List.mem_of_getElem? (i := 1) rfl)) (hw _ (List.mem_of_getElem? (i := 2) rfl)) e0 (g := (mkF m 68 #[.val (.int kc), .val (.int lens), .val (.int q0), .val (.int q1), .val (.int q2), .val (.int (lens &&& (3 : Int32))), .val (.int (((lens.toUInt32 >>> ((2 : Int32) &&& 31).toUInt32).toInt32) &&& (3 : Int32))), .val (.int ((kc &&& (255 : Int32)).toUInt32.toUInt16.toUInt32.toInt32)), .val (.int ((((kc.toUInt32 >>> ((8 : Int32) &&& 31).toUInt32).toInt32) &&& (255 : Int32)).toUInt32.toUInt16.toUInt32.toInt32)), .val (.int ((((kc.toUInt32 >>> ((16 : Int32) &&& 31).toUInt32).toInt32) &&& (255 : Int32)).toUInt32.toUInt16.toUInt32.toInt32)), .unset, .unset, .unset, .unset, .unset, .unset, .unset, .unset, .unset] [])) rfl (hb hby at_68) (by decide) (by decide)
        obtain ⟨b38, g38⟩ : ∃ z, z = h0.size := ⟨_, rfl⟩
        rw [← g38] at A38 D38 st38
        have S39 : ∀ t, Steps p.tables e below (T38.setTop (mkF m 71 #[.val (.int kc), .val (.int lens), .val (.int q0), .val (.int q1), .val (.int q2), .val (.int (lens &&& (3 : Int32))), .val (.int (((lens.toUInt32 >>> ((2 : Int32) &&& 31).toUInt32).toInt32) &&& (3 : Int32))), .val (.int ((kc &&& (255 : Int32)).toUInt32.toUInt16.toUInt32.toInt32)), .val (.int ((((kc.toUInt32 >>> ((8 : Int32) &&& 31).toUInt32).toInt32) &&& (255 : Int32)).toUInt32.toUInt16.toUInt32.toInt32)), .val (.int ((((kc.toUInt32 >>> ((16 : Int32) &&& 31).toUInt32).toInt32) &&& (255 : Int32)).toUInt32.toUInt16.toUInt32.toInt32)), .unset, .unset, .unset, .unset, .unset, .unset, .unset, .unset, .unset] [(.ref b38)])) t → Steps p.tables e below (s₁.setTop (entryFrame m #[(.int kc), (.int lens), (.int q0), (.int q1), (.int q2)] maxLocals)) t := fun t kt => S37 t (st38 _ kt)
        have Sf_b38 : Safe Z own_EL s.vm h38 b38 := Safe.ext E38 CR0.1 (Safe.new (Nat.le_of_eq g38.symm))
        have CR40 := CR0.trans (CHr.ext E38 CR0.1)
        have g_b38 : n0 ≤ b38 := Nat.le_trans Z0 (Nat.le_of_eq g38.symm)
        have sz_b38 : h0.size ≤ b38 := Nat.le_trans (Keep.refl h0 []).1 (Nat.le_of_eq g38.symm)
        have F41 := S_CS.ext E38
        have K42 : Keep h0 h38 [] := (Keep.refl h0 []).ext E38
        have F43 : Fld Z h38 b38 "java/lang/String" "coder" "B" (.int (0 : Int32)) := D38 (Or.inr (hw _ (List.mem_of_getElem? (i := 27) rfl))) (ty := .byte) (by decide)
        have F44 : Fld Z h38 b38 "java/lang/String" "value" "[B" .null := D38 (Or.inr (hw _ (List.mem_of_getElem? (i := 29) rfl))) (ty := (.array .byte)) (by decide)
        have S45 : ∀ t, Steps p.tables e below (T38.setTop (mkF m 73 #[.val (.int kc), .val (.int lens), .val (.int q0), .val (.int q1), .val (.int q2), .val (.int (lens &&& (3 : Int32))), .val (.int (((lens.toUInt32 >>> ((2 : Int32) &&& 31).toUInt32).toInt32) &&& (3 : Int32))), .val (.int ((kc &&& (255 : Int32)).toUInt32.toUInt16.toUInt32.toInt32)), .val (.int ((((kc.toUInt32 >>> ((8 : Int32) &&& 31).toUInt32).toInt32) &&& (255 : Int32)).toUInt32.toUInt16.toUInt32.toInt32)), .val (.int ((((kc.toUInt32 >>> ((16 : Int32) &&& 31).toUInt32).toInt32) &&& (255 : Int32)).toUInt32.toUInt16.toUInt32.toInt32)), .unset, .unset, .unset, .unset, .unset, .unset, .unset, .unset, .unset] [(.int (1 : Int32)), (.ref b38), (.ref b38)])) t → Steps p.tables e below (s₁.setTop (entryFrame m #[(.int kc), (.int lens), (.int q0), (.int q1), (.int q2)] maxLocals)) t := fun t kt => by
          refine S39 t ?_
          show Steps p.tables e below (T38.setTop (mkF m 71 #[.val (.int kc), .val (.int lens), .val (.int q0), .val (.int q1), .val (.int q2), .val (.int (lens &&& (3 : Int32))), .val (.int (((lens.toUInt32 >>> ((2 : Int32) &&& 31).toUInt32).toInt32) &&& (3 : Int32))), .val (.int ((kc &&& (255 : Int32)).toUInt32.toUInt16.toUInt32.toInt32)), .val (.int ((((kc.toUInt32 >>> ((8 : Int32) &&& 31).toUInt32).toInt32) &&& (255 : Int32)).toUInt32.toUInt16.toUInt32.toInt32)), .val (.int ((((kc.toUInt32 >>> ((16 : Int32) &&& 31).toUInt32).toInt32) &&& (255 : Int32)).toUInt32.toUInt16.toUInt32.toInt32)), .unset, .unset, .unset, .unset, .unset, .unset, .unset, .unset, .unset] [(.ref b38)])) t
          refine XS.dup X38.here hx rfl (hb hby at_71) rfl rfl ?_
          refine XS.iconst X38.here hx rfl (hb hby at_72) ?_
          exact kt
        obtain ⟨T46, h46, k46, X46, e46, E46, A46, st46⟩ := newP X38 hx hZ (hw _ (List.mem_of_getElem? (i := 3) rfl)) e38 (g := (mkF m 73 #[.val (.int kc), .val (.int lens), .val (.int q0), .val (.int q1), .val (.int q2), .val (.int (lens &&& (3 : Int32))), .val (.int (((lens.toUInt32 >>> ((2 : Int32) &&& 31).toUInt32).toInt32) &&& (3 : Int32))), .val (.int ((kc &&& (255 : Int32)).toUInt32.toUInt16.toUInt32.toInt32)), .val (.int ((((kc.toUInt32 >>> ((8 : Int32) &&& 31).toUInt32).toInt32) &&& (255 : Int32)).toUInt32.toUInt16.toUInt32.toInt32)), .val (.int ((((kc.toUInt32 >>> ((16 : Int32) &&& 31).toUInt32).toInt32) &&& (255 : Int32)).toUInt32.toUInt16.toUInt32.toInt32)), .unset, .unset, .unset, .unset, .unset, .unset, .unset, .unset, .unset] [(.int (1 : Int32)), (.ref b38), (.ref b38)])) rfl (hb hby at_73) rfl (by decide) (cap := 1) (by decide) (by decide) (by decide) (by decide)
        obtain ⟨b46, g46⟩ : ∃ z, z = h38.size := ⟨_, rfl⟩
        rw [← g46] at A46 st46
        have S47 : ∀ t, Steps p.tables e below (T46.setTop (mkF m 75 #[.val (.int kc), .val (.int lens), .val (.int q0), .val (.int q1), .val (.int q2), .val (.int (lens &&& (3 : Int32))), .val (.int (((lens.toUInt32 >>> ((2 : Int32) &&& 31).toUInt32).toInt32) &&& (3 : Int32))), .val (.int ((kc &&& (255 : Int32)).toUInt32.toUInt16.toUInt32.toInt32)), .val (.int ((((kc.toUInt32 >>> ((8 : Int32) &&& 31).toUInt32).toInt32) &&& (255 : Int32)).toUInt32.toUInt16.toUInt32.toInt32)), .val (.int ((((kc.toUInt32 >>> ((16 : Int32) &&& 31).toUInt32).toInt32) &&& (255 : Int32)).toUInt32.toUInt16.toUInt32.toInt32)), .unset, .unset, .unset, .unset, .unset, .unset, .unset, .unset, .unset] [(.ref b46), (.ref b38), (.ref b38)])) t → Steps p.tables e below (s₁.setTop (entryFrame m #[(.int kc), (.int lens), (.int q0), (.int q1), (.int q2)] maxLocals)) t := fun t kt => S45 t (st46 _ kt)
        have Sf_b46 : Safe Z own_EL s.vm h46 b46 := Safe.ext E46 CR40.1 (Safe.new (Nat.le_of_eq g46.symm))
        have Sf48 := Safe.ext E46 CR40.1 Sf_b38
        have CR49 := CR40.trans (CHr.ext E46 CR40.1)
        have g_b46 : n0 ≤ b46 := Nat.le_trans (Nat.le_trans Z0 K42.1) (Nat.le_of_eq g46.symm)
        have sz_b46 : h0.size ≤ b46 := Nat.le_trans K42.1 (Nat.le_of_eq g46.symm)
        have ne_b38_b46 : b38 ≠ b46 := Nat.ne_of_lt (Nat.lt_of_lt_of_le A38.lt (Nat.le_of_eq g46.symm))
        have F50 := F41.ext E46
        have F51 := A38.ext E46
        have F52 := F43.ext E46
        have F53 := F44.ext E46
        have K54 : Keep h0 h46 [] := K42.ext E46
        have V55 : Arv Z h46 b46 k46 .char (1 : Int32) [(.int (0 : Int32))] (.int (0 : Int32)) := (Arv.new A46 (by decide)).pad (pad_rep [] (.int (0 : Int32)) 1)
        have S56 : ∀ t, Steps p.tables e below (T46.setTop (mkF m 79 #[.val (.int kc), .val (.int lens), .val (.int q0), .val (.int q1), .val (.int q2), .val (.int (lens &&& (3 : Int32))), .val (.int (((lens.toUInt32 >>> ((2 : Int32) &&& 31).toUInt32).toInt32) &&& (3 : Int32))), .val (.int ((kc &&& (255 : Int32)).toUInt32.toUInt16.toUInt32.toInt32)), .val (.int ((((kc.toUInt32 >>> ((8 : Int32) &&& 31).toUInt32).toInt32) &&& (255 : Int32)).toUInt32.toUInt16.toUInt32.toInt32)), .val (.int ((((kc.toUInt32 >>> ((16 : Int32) &&& 31).toUInt32).toInt32) &&& (255 : Int32)).toUInt32.toUInt16.toUInt32.toInt32)), .unset, .unset, .unset, .unset, .unset, .unset, .unset, .unset, .unset] [(.int ((kc &&& (255 : Int32)).toUInt32.toUInt16.toUInt32.toInt32)), (.int (0 : Int32)), (.ref b46), (.ref b46), (.ref b38), (.ref b38)])) t → Steps p.tables e below (s₁.setTop (entryFrame m #[(.int kc), (.int lens), (.int q0), (.int q1), (.int q2)] maxLocals)) t := fun t kt => by
          refine S47 t ?_
          show Steps p.tables e below (T46.setTop (mkF m 75 #[.val (.int kc), .val (.int lens), .val (.int q0), .val (.int q1), .val (.int q2), .val (.int (lens &&& (3 : Int32))), .val (.int (((lens.toUInt32 >>> ((2 : Int32) &&& 31).toUInt32).toInt32) &&& (3 : Int32))), .val (.int ((kc &&& (255 : Int32)).toUInt32.toUInt16.toUInt32.toInt32)), .val (.int ((((kc.toUInt32 >>> ((8 : Int32) &&& 31).toUInt32).toInt32) &&& (255 : Int32)).toUInt32.toUInt16.toUInt32.toInt32)), .val (.int ((((kc.toUInt32 >>> ((16 : Int32) &&& 31).toUInt32).toInt32) &&& (255 : Int32)).toUInt32.toUInt16.toUInt32.toInt32)), .unset, .unset, .unset, .unset, .unset, .unset, .unset, .unset, .unset] [(.ref b46), (.ref b38), (.ref b38)])) t
          refine XS.dup X46.here hx rfl (hb hby at_75) rfl rfl ?_
          refine XS.iconst X46.here hx rfl (hb hby at_76) ?_
          refine XS.iload X46.here hx rfl (hb hby at_77) rfl ?_
          exact kt
        obtain ⟨cl57, Ar57, q57, Sz57, Nn57, Hh57, Gg57⟩ := id V55
        have hin57 : ¬ ((0 : Int32) < 0 ∨ cl57.slots.size ≤ ((0 : Int32)).toNatClampNeg) := inb_of Sz57 ⟨by decide, by decide⟩
        obtain ⟨T58, h58, X58, e58, W58, st58⟩ := stC X46 hx hZ e46 Ar57 (j := (0 : Int32)) hin57 (g := (mkF m 79 #[.val (.int kc), .val (.int lens), .val (.int q0), .val (.int q1), .val (.int q2), .val (.int (lens &&& (3 : Int32))), .val (.int (((lens.toUInt32 >>> ((2 : Int32) &&& 31).toUInt32).toInt32) &&& (3 : Int32))), .val (.int ((kc &&& (255 : Int32)).toUInt32.toUInt16.toUInt32.toInt32)), .val (.int ((((kc.toUInt32 >>> ((8 : Int32) &&& 31).toUInt32).toInt32) &&& (255 : Int32)).toUInt32.toUInt16.toUInt32.toInt32)), .val (.int ((((kc.toUInt32 >>> ((16 : Int32) &&& 31).toUInt32).toInt32) &&& (255 : Int32)).toUInt32.toUInt16.toUInt32.toInt32)), .unset, .unset, .unset, .unset, .unset, .unset, .unset, .unset, .unset] [(.int ((kc &&& (255 : Int32)).toUInt32.toUInt16.toUInt32.toInt32)), (.int (0 : Int32)), (.ref b46), (.ref b46), (.ref b38), (.ref b38)])) rfl rfl (hb hby at_79)
        have S59 : ∀ t, Steps p.tables e below (T58.setTop (mkF m 80 #[.val (.int kc), .val (.int lens), .val (.int q0), .val (.int q1), .val (.int q2), .val (.int (lens &&& (3 : Int32))), .val (.int (((lens.toUInt32 >>> ((2 : Int32) &&& 31).toUInt32).toInt32) &&& (3 : Int32))), .val (.int ((kc &&& (255 : Int32)).toUInt32.toUInt16.toUInt32.toInt32)), .val (.int ((((kc.toUInt32 >>> ((8 : Int32) &&& 31).toUInt32).toInt32) &&& (255 : Int32)).toUInt32.toUInt16.toUInt32.toInt32)), .val (.int ((((kc.toUInt32 >>> ((16 : Int32) &&& 31).toUInt32).toInt32) &&& (255 : Int32)).toUInt32.toUInt16.toUInt32.toInt32)), .unset, .unset, .unset, .unset, .unset, .unset, .unset, .unset, .unset] [(.ref b46), (.ref b38), (.ref b38)])) t → Steps p.tables e below (s₁.setTop (entryFrame m #[(.int kc), (.int lens), (.int q0), (.int q1), (.int q2)] maxLocals)) t := fun t kt => S56 t (st58 _ kt)
        have V60 := Arv.set Ar57 q57 Sz57 Nn57 Hh57 Gg57 (fits_nar_char _) W58 0 rfl (Nat.le_of_ble_eq_true rfl)
        have Sf61 := Safe.wr W58 Sf_b46 CR49.1 Sf48
        have Sf62 := Safe.wr W58 Sf_b46 CR49.1 Sf_b46
        have CR63 := CR49.trans (CHr.wr W58 Sf_b46 CR49.1)
        have F64 := F50.wr W58
        have F65 := F51.wr W58
        have F66 := F52.other W58 (Or.inl ne_b38_b46)
        have F67 := F53.other W58 (Or.inl ne_b38_b46)
        have N68 := Fr.snoc X58 N0 g_b46
        have K69 : Keep h0 h58 [] := K54.wr W58 (Or.inr sz_b46)
        obtain ⟨_, _, ⟨T72, L72, k72, n72⟩, -, X72, ⟨Lc72, hQ72, l72, y72, z72⟩, st72⟩ := X58.specialBack hx (y := (⟨"java/lang/String", "<init>", "([C)V"⟩ : MethodName)) rfl hown (mvT hZ (hw _ (List.mem_of_getElem? (i := 4) rfl))) (mvT hZ (hw _ (List.mem_of_getElem? (i := 5) rfl))) (mvT hZ (hw _ (List.mem_of_getElem? (i := 6) rfl))) (by decide) (backOf (W := 1) (own_rm1k1 l Z a0 hw [] (b38) (b46) ((nar .char ((kc &&& (255 : Int32)).toUInt32.toUInt16.toUInt32.toInt32))) (k46) (cs) (.null) ((.int (0 : Int32))) h58 n0 (Nat.le_trans Z0 K69.1) F65 g_b38 F67 F66 F64 hcs V60 (own_lat8 _)) hZ (hw _ (List.mem_of_getElem? (i := 6) rfl)) (hw _ (List.mem_of_getElem? (i := 2) rfl)) (by decide) (by decide)) (g := (mkF m 80 #[.val (.int kc), .val (.int lens), .val (.int q0), .val (.int q1), .val (.int q2), .val (.int (lens &&& (3 : Int32))), .val (.int (((lens.toUInt32 >>> ((2 : Int32) &&& 31).toUInt32).toInt32) &&& (3 : Int32))), .val (.int ((kc &&& (255 : Int32)).toUInt32.toUInt16.toUInt32.toInt32)), .val (.int ((((kc.toUInt32 >>> ((8 : Int32) &&& 31).toUInt32).toInt32) &&& (255 : Int32)).toUInt32.toUInt16.toUInt32.toInt32)), .val (.int ((((kc.toUInt32 >>> ((16 : Int32) &&& 31).toUInt32).toInt32) &&& (255 : Int32)).toUInt32.toUInt16.toUInt32.toInt32)), .unset, .unset, .unset, .unset, .unset, .unset, .unset, .unset, .unset] [(.ref b46), (.ref b38), (.ref b38)])) rfl (by rw [hml]; rfl) (Steps.refl _) (a := b38) (argsL := [(.ref b46)]) (rest := [(.ref b38)]) (lenOf own_pd6 rfl) rfl (by show 2 * 0 + _ ≤ _; exact Nat.le_of_eq rfl) (hb hby at_80) (fun _ _ => ⟨rfl, e58, (by decide : 2 + 1 ≤ _), (by decide : 5 + 1 ≤ _)⟩)
        dsimp only [Pt.U, Pt.locs, Pt.cells, Pt.slots] at X72 l72 y72 z72 st72 hQ72
        subst l72 y72 z72
        obtain ⟨rfl, Nq72, Kc70, Ec70, Cc70, tb70, kt70, gt70, sz70, nat70, Fv70, Va70⟩ := hQ72
        have N73 := Fr.app N68 Nq72
        have S74 : ∀ t, Steps p.tables e below (T72.setTop (mkF m 83 #[.val (.int kc), .val (.int lens), .val (.int q0), .val (.int q1), .val (.int q2), .val (.int (lens &&& (3 : Int32))), .val (.int (((lens.toUInt32 >>> ((2 : Int32) &&& 31).toUInt32).toInt32) &&& (3 : Int32))), .val (.int ((kc &&& (255 : Int32)).toUInt32.toUInt16.toUInt32.toInt32)), .val (.int ((((kc.toUInt32 >>> ((8 : Int32) &&& 31).toUInt32).toInt32) &&& (255 : Int32)).toUInt32.toUInt16.toUInt32.toInt32)), .val (.int ((((kc.toUInt32 >>> ((16 : Int32) &&& 31).toUInt32).toInt32) &&& (255 : Int32)).toUInt32.toUInt16.toUInt32.toInt32)), .unset, .unset, .unset, .unset, .unset, .unset, .unset, .unset, .unset] [(.ref b38)])) t → Steps p.tables e below (s₁.setTop (entryFrame m #[(.int kc), (.int lens), (.int q0), (.int q1), (.int q2)] maxLocals)) t := fun t kt => S59 t (st72.trans kt)
        have Sf75 := Safe.keep Kc70 (allS Sf61 all0) CR63.1 Sf61
        have Sf76 := Safe.keep Kc70 (allS Sf61 all0) CR63.1 Sf62
        have CR77 := CR63.trans (CHr.keep Kc70 (allS Sf61 all0) CR63.1)
        have F78 := own_StaK F64 Kc70 (allS (own_ExaS F65) all0)
        have F79 := F65.keep Kc70
        have F80 := V60.keep Kc70 (ninS (Ne.symm ne_b38_b46) nin0)
        have K81 : Keep h0 T72.heap [] := K69.trans Kc70 (allS (Or.inr sz_b38) all0)
        have ne_b46_tb70 : b46 ≠ tb70 := Nat.ne_of_lt (Nat.lt_of_lt_of_le V60.lt sz70)
        have S82 : ∀ t, Steps p.tables e below (T72.setTop (mkF m 146 #[.val (.int kc), .val (.int lens), .val (.int q0), .val (.int q1), .val (.int q2), .val (.int (lens &&& (3 : Int32))), .val (.int (((lens.toUInt32 >>> ((2 : Int32) &&& 31).toUInt32).toInt32) &&& (3 : Int32))), .val (.int ((kc &&& (255 : Int32)).toUInt32.toUInt16.toUInt32.toInt32)), .val (.int ((((kc.toUInt32 >>> ((8 : Int32) &&& 31).toUInt32).toInt32) &&& (255 : Int32)).toUInt32.toUInt16.toUInt32.toInt32)), .val (.int ((((kc.toUInt32 >>> ((16 : Int32) &&& 31).toUInt32).toInt32) &&& (255 : Int32)).toUInt32.toUInt16.toUInt32.toInt32)), .val (.ref b38), .unset, .unset, .unset, .unset, .unset, .unset, .unset, .unset] [])) t → Steps p.tables e below (s₁.setTop (entryFrame m #[(.int kc), (.int lens), (.int q0), (.int q1), (.int q2)] maxLocals)) t := fun t kt => by
          refine S74 t ?_
          show Steps p.tables e below (T72.setTop (mkF m 83 #[.val (.int kc), .val (.int lens), .val (.int q0), .val (.int q1), .val (.int q2), .val (.int (lens &&& (3 : Int32))), .val (.int (((lens.toUInt32 >>> ((2 : Int32) &&& 31).toUInt32).toInt32) &&& (3 : Int32))), .val (.int ((kc &&& (255 : Int32)).toUInt32.toUInt16.toUInt32.toInt32)), .val (.int ((((kc.toUInt32 >>> ((8 : Int32) &&& 31).toUInt32).toInt32) &&& (255 : Int32)).toUInt32.toUInt16.toUInt32.toInt32)), .val (.int ((((kc.toUInt32 >>> ((16 : Int32) &&& 31).toUInt32).toInt32) &&& (255 : Int32)).toUInt32.toUInt16.toUInt32.toInt32)), .unset, .unset, .unset, .unset, .unset, .unset, .unset, .unset, .unset] [(.ref b38)])) t
          refine XS.astore X72.here hx rfl (hb hby at_83) rfl rfl (l' := #[.val (.int kc), .val (.int lens), .val (.int q0), .val (.int q1), .val (.int q2), .val (.int (lens &&& (3 : Int32))), .val (.int (((lens.toUInt32 >>> ((2 : Int32) &&& 31).toUInt32).toInt32) &&& (3 : Int32))), .val (.int ((kc &&& (255 : Int32)).toUInt32.toUInt16.toUInt32.toInt32)), .val (.int ((((kc.toUInt32 >>> ((8 : Int32) &&& 31).toUInt32).toInt32) &&& (255 : Int32)).toUInt32.toUInt16.toUInt32.toInt32)), .val (.int ((((kc.toUInt32 >>> ((16 : Int32) &&& 31).toUInt32).toInt32) &&& (255 : Int32)).toUInt32.toUInt16.toUInt32.toInt32)), .val (.ref b38), .unset, .unset, .unset, .unset, .unset, .unset, .unset, .unset]) rfl ?_
          refine XS.goto X72.here hx rfl (pc0 := 85) (pc' := 146) rfl (hb hby at_85) (by decide) (by decide) ?_
          exact kt
        exact ⟨T72, T72.heap, s.vm, _, _, (b38), X72.more (by decide) (by decide), rfl, hS0, (Nat.le_trans (Nat.le_trans (Nat.le_trans (Nat.le_trans (Nat.le_refl _) E38.1) E46.1) (Keep.of_wr W58).1) Kc70.1), hZ, hown, CR77, N73, K81, Ec70, S82⟩
      · skip
        have S83 : ∀ t, Steps p.tables e below (s₁.setTop (mkF m 91 #[.val (.int kc), .val (.int lens), .val (.int q0), .val (.int q1), .val (.int q2), .val (.int (lens &&& (3 : Int32))), .val (.int (((lens.toUInt32 >>> ((2 : Int32) &&& 31).toUInt32).toInt32) &&& (3 : Int32))), .val (.int ((kc &&& (255 : Int32)).toUInt32.toUInt16.toUInt32.toInt32)), .val (.int ((((kc.toUInt32 >>> ((8 : Int32) &&& 31).toUInt32).toInt32) &&& (255 : Int32)).toUInt32.toUInt16.toUInt32.toInt32)), .val (.int ((((kc.toUInt32 >>> ((16 : Int32) &&& 31).toUInt32).toInt32) &&& (255 : Int32)).toUInt32.toUInt16.toUInt32.toInt32)), .unset, .unset, .unset, .unset, .unset, .unset, .unset, .unset, .unset] [(.int (2 : Int32)), (.int (lens &&& (3 : Int32)))])) t → Steps p.tables e below (s₁.setTop (entryFrame m #[(.int kc), (.int lens), (.int q0), (.int q1), (.int q2)] maxLocals)) t := fun t kt => by
          refine S36 t ?_
          show Steps p.tables e below (s₁.setTop (mkF m 65 #[.val (.int kc), .val (.int lens), .val (.int q0), .val (.int q1), .val (.int q2), .val (.int (lens &&& (3 : Int32))), .val (.int (((lens.toUInt32 >>> ((2 : Int32) &&& 31).toUInt32).toInt32) &&& (3 : Int32))), .val (.int ((kc &&& (255 : Int32)).toUInt32.toUInt16.toUInt32.toInt32)), .val (.int ((((kc.toUInt32 >>> ((8 : Int32) &&& 31).toUInt32).toInt32) &&& (255 : Int32)).toUInt32.toUInt16.toUInt32.toInt32)), .val (.int ((((kc.toUInt32 >>> ((16 : Int32) &&& 31).toUInt32).toInt32) &&& (255 : Int32)).toUInt32.toUInt16.toUInt32.toInt32)), .unset, .unset, .unset, .unset, .unset, .unset, .unset, .unset, .unset] [(.int (1 : Int32)), (.int (lens &&& (3 : Int32)))])) t
          refine XS.icmpYes X0.here hx rfl (pc0 := 65) (pc' := 88) rfl (hb hby at_65) rfl (feq hc65).2 (by decide) (by decide) ?_
          refine XS.iload X0.here hx rfl (hb hby at_88) rfl ?_
          refine XS.iconst X0.here hx rfl (hb hby at_90) ?_
          exact kt
        by_cases hc91 : (lens &&& (3 : Int32)) = (2 : Int32)
        · skip
          have S84 : ∀ t, Steps p.tables e below (s₁.setTop (mkF m 94 #[.val (.int kc), .val (.int lens), .val (.int q0), .val (.int q1), .val (.int q2), .val (.int (lens &&& (3 : Int32))), .val (.int (((lens.toUInt32 >>> ((2 : Int32) &&& 31).toUInt32).toInt32) &&& (3 : Int32))), .val (.int ((kc &&& (255 : Int32)).toUInt32.toUInt16.toUInt32.toInt32)), .val (.int ((((kc.toUInt32 >>> ((8 : Int32) &&& 31).toUInt32).toInt32) &&& (255 : Int32)).toUInt32.toUInt16.toUInt32.toInt32)), .val (.int ((((kc.toUInt32 >>> ((16 : Int32) &&& 31).toUInt32).toInt32) &&& (255 : Int32)).toUInt32.toUInt16.toUInt32.toInt32)), .unset, .unset, .unset, .unset, .unset, .unset, .unset, .unset, .unset] [])) t → Steps p.tables e below (s₁.setTop (entryFrame m #[(.int kc), (.int lens), (.int q0), (.int q1), (.int q2)] maxLocals)) t := fun t kt => by
            refine S83 t ?_
            show Steps p.tables e below (s₁.setTop (mkF m 91 #[.val (.int kc), .val (.int lens), .val (.int q0), .val (.int q1), .val (.int q2), .val (.int (lens &&& (3 : Int32))), .val (.int (((lens.toUInt32 >>> ((2 : Int32) &&& 31).toUInt32).toInt32) &&& (3 : Int32))), .val (.int ((kc &&& (255 : Int32)).toUInt32.toUInt16.toUInt32.toInt32)), .val (.int ((((kc.toUInt32 >>> ((8 : Int32) &&& 31).toUInt32).toInt32) &&& (255 : Int32)).toUInt32.toUInt16.toUInt32.toInt32)), .val (.int ((((kc.toUInt32 >>> ((16 : Int32) &&& 31).toUInt32).toInt32) &&& (255 : Int32)).toUInt32.toUInt16.toUInt32.toInt32)), .unset, .unset, .unset, .unset, .unset, .unset, .unset, .unset, .unset] [(.int (2 : Int32)), (.int (lens &&& (3 : Int32)))])) t
            refine XS.icmpNo X0.here hx rfl (hb hby at_91) rfl (teq hc91).2 ?_
            exact kt
          obtain ⟨T85, h85, X85, e85, E85, A85, D85, -, st85⟩ := newO X0 hx hZ hown (hw _ (List.mem_of_getElem? (i := 0) rfl)) (hw _ (List.mem_of_getElem? (i := 1) rfl)) (hw _ (List.mem_of_getElem? (i := 2) rfl)) e0 (g := (mkF m 94 #[.val (.int kc), .val (.int lens), .val (.int q0), .val (.int q1), .val (.int q2), .val (.int (lens &&& (3 : Int32))), .val (.int (((lens.toUInt32 >>> ((2 : Int32) &&& 31).toUInt32).toInt32) &&& (3 : Int32))), .val (.int ((kc &&& (255 : Int32)).toUInt32.toUInt16.toUInt32.toInt32)), .val (.int ((((kc.toUInt32 >>> ((8 : Int32) &&& 31).toUInt32).toInt32) &&& (255 : Int32)).toUInt32.toUInt16.toUInt32.toInt32)), .val (.int ((((kc.toUInt32 >>> ((16 : Int32) &&& 31).toUInt32).toInt32) &&& (255 : Int32)).toUInt32.toUInt16.toUInt32.toInt32)), .unset, .unset, .unset, .unset, .unset, .unset, .unset, .unset, .unset] [])) rfl (hb hby at_94) (by decide) (by decide)
          obtain ⟨b85, g85⟩ : ∃ z, z = h0.size := ⟨_, rfl⟩
          rw [← g85] at A85 D85 st85
          have S86 : ∀ t, Steps p.tables e below (T85.setTop (mkF m 97 #[.val (.int kc), .val (.int lens), .val (.int q0), .val (.int q1), .val (.int q2), .val (.int (lens &&& (3 : Int32))), .val (.int (((lens.toUInt32 >>> ((2 : Int32) &&& 31).toUInt32).toInt32) &&& (3 : Int32))), .val (.int ((kc &&& (255 : Int32)).toUInt32.toUInt16.toUInt32.toInt32)), .val (.int ((((kc.toUInt32 >>> ((8 : Int32) &&& 31).toUInt32).toInt32) &&& (255 : Int32)).toUInt32.toUInt16.toUInt32.toInt32)), .val (.int ((((kc.toUInt32 >>> ((16 : Int32) &&& 31).toUInt32).toInt32) &&& (255 : Int32)).toUInt32.toUInt16.toUInt32.toInt32)), .unset, .unset, .unset, .unset, .unset, .unset, .unset, .unset, .unset] [(.ref b85)])) t → Steps p.tables e below (s₁.setTop (entryFrame m #[(.int kc), (.int lens), (.int q0), (.int q1), (.int q2)] maxLocals)) t := fun t kt => S84 t (st85 _ kt)
          have Sf_b85 : Safe Z own_EL s.vm h85 b85 := Safe.ext E85 CR0.1 (Safe.new (Nat.le_of_eq g85.symm))
          have CR87 := CR0.trans (CHr.ext E85 CR0.1)
          have g_b85 : n0 ≤ b85 := Nat.le_trans Z0 (Nat.le_of_eq g85.symm)
          have sz_b85 : h0.size ≤ b85 := Nat.le_trans (Keep.refl h0 []).1 (Nat.le_of_eq g85.symm)
          have F88 := S_CS.ext E85
          have K89 : Keep h0 h85 [] := (Keep.refl h0 []).ext E85
          have F90 : Fld Z h85 b85 "java/lang/String" "coder" "B" (.int (0 : Int32)) := D85 (Or.inr (hw _ (List.mem_of_getElem? (i := 27) rfl))) (ty := .byte) (by decide)
          have F91 : Fld Z h85 b85 "java/lang/String" "value" "[B" .null := D85 (Or.inr (hw _ (List.mem_of_getElem? (i := 29) rfl))) (ty := (.array .byte)) (by decide)
          have S92 : ∀ t, Steps p.tables e below (T85.setTop (mkF m 99 #[.val (.int kc), .val (.int lens), .val (.int q0), .val (.int q1), .val (.int q2), .val (.int (lens &&& (3 : Int32))), .val (.int (((lens.toUInt32 >>> ((2 : Int32) &&& 31).toUInt32).toInt32) &&& (3 : Int32))), .val (.int ((kc &&& (255 : Int32)).toUInt32.toUInt16.toUInt32.toInt32)), .val (.int ((((kc.toUInt32 >>> ((8 : Int32) &&& 31).toUInt32).toInt32) &&& (255 : Int32)).toUInt32.toUInt16.toUInt32.toInt32)), .val (.int ((((kc.toUInt32 >>> ((16 : Int32) &&& 31).toUInt32).toInt32) &&& (255 : Int32)).toUInt32.toUInt16.toUInt32.toInt32)), .unset, .unset, .unset, .unset, .unset, .unset, .unset, .unset, .unset] [(.int (2 : Int32)), (.ref b85), (.ref b85)])) t → Steps p.tables e below (s₁.setTop (entryFrame m #[(.int kc), (.int lens), (.int q0), (.int q1), (.int q2)] maxLocals)) t := fun t kt => by
            refine S86 t ?_
            show Steps p.tables e below (T85.setTop (mkF m 97 #[.val (.int kc), .val (.int lens), .val (.int q0), .val (.int q1), .val (.int q2), .val (.int (lens &&& (3 : Int32))), .val (.int (((lens.toUInt32 >>> ((2 : Int32) &&& 31).toUInt32).toInt32) &&& (3 : Int32))), .val (.int ((kc &&& (255 : Int32)).toUInt32.toUInt16.toUInt32.toInt32)), .val (.int ((((kc.toUInt32 >>> ((8 : Int32) &&& 31).toUInt32).toInt32) &&& (255 : Int32)).toUInt32.toUInt16.toUInt32.toInt32)), .val (.int ((((kc.toUInt32 >>> ((16 : Int32) &&& 31).toUInt32).toInt32) &&& (255 : Int32)).toUInt32.toUInt16.toUInt32.toInt32)), .unset, .unset, .unset, .unset, .unset, .unset, .unset, .unset, .unset] [(.ref b85)])) t
            refine XS.dup X85.here hx rfl (hb hby at_97) rfl rfl ?_
            refine XS.iconst X85.here hx rfl (hb hby at_98) ?_
            exact kt
          obtain ⟨T93, h93, k93, X93, e93, E93, A93, st93⟩ := newP X85 hx hZ (hw _ (List.mem_of_getElem? (i := 3) rfl)) e85 (g := (mkF m 99 #[.val (.int kc), .val (.int lens), .val (.int q0), .val (.int q1), .val (.int q2), .val (.int (lens &&& (3 : Int32))), .val (.int (((lens.toUInt32 >>> ((2 : Int32) &&& 31).toUInt32).toInt32) &&& (3 : Int32))), .val (.int ((kc &&& (255 : Int32)).toUInt32.toUInt16.toUInt32.toInt32)), .val (.int ((((kc.toUInt32 >>> ((8 : Int32) &&& 31).toUInt32).toInt32) &&& (255 : Int32)).toUInt32.toUInt16.toUInt32.toInt32)), .val (.int ((((kc.toUInt32 >>> ((16 : Int32) &&& 31).toUInt32).toInt32) &&& (255 : Int32)).toUInt32.toUInt16.toUInt32.toInt32)), .unset, .unset, .unset, .unset, .unset, .unset, .unset, .unset, .unset] [(.int (2 : Int32)), (.ref b85), (.ref b85)])) rfl (hb hby at_99) rfl (by decide) (cap := 2) (by decide) (by decide) (by decide) (by decide)
          obtain ⟨b93, g93⟩ : ∃ z, z = h85.size := ⟨_, rfl⟩
          rw [← g93] at A93 st93
          have S94 : ∀ t, Steps p.tables e below (T93.setTop (mkF m 101 #[.val (.int kc), .val (.int lens), .val (.int q0), .val (.int q1), .val (.int q2), .val (.int (lens &&& (3 : Int32))), .val (.int (((lens.toUInt32 >>> ((2 : Int32) &&& 31).toUInt32).toInt32) &&& (3 : Int32))), .val (.int ((kc &&& (255 : Int32)).toUInt32.toUInt16.toUInt32.toInt32)), .val (.int ((((kc.toUInt32 >>> ((8 : Int32) &&& 31).toUInt32).toInt32) &&& (255 : Int32)).toUInt32.toUInt16.toUInt32.toInt32)), .val (.int ((((kc.toUInt32 >>> ((16 : Int32) &&& 31).toUInt32).toInt32) &&& (255 : Int32)).toUInt32.toUInt16.toUInt32.toInt32)), .unset, .unset, .unset, .unset, .unset, .unset, .unset, .unset, .unset] [(.ref b93), (.ref b85), (.ref b85)])) t → Steps p.tables e below (s₁.setTop (entryFrame m #[(.int kc), (.int lens), (.int q0), (.int q1), (.int q2)] maxLocals)) t := fun t kt => S92 t (st93 _ kt)
          have Sf_b93 : Safe Z own_EL s.vm h93 b93 := Safe.ext E93 CR87.1 (Safe.new (Nat.le_of_eq g93.symm))
          have Sf95 := Safe.ext E93 CR87.1 Sf_b85
          have CR96 := CR87.trans (CHr.ext E93 CR87.1)
          have g_b93 : n0 ≤ b93 := Nat.le_trans (Nat.le_trans Z0 K89.1) (Nat.le_of_eq g93.symm)
          have sz_b93 : h0.size ≤ b93 := Nat.le_trans K89.1 (Nat.le_of_eq g93.symm)
          have ne_b85_b93 : b85 ≠ b93 := Nat.ne_of_lt (Nat.lt_of_lt_of_le A85.lt (Nat.le_of_eq g93.symm))
          have F97 := F88.ext E93
          have F98 := A85.ext E93
          have F99 := F90.ext E93
          have F100 := F91.ext E93
          have K101 : Keep h0 h93 [] := K89.ext E93
          have V102 : Arv Z h93 b93 k93 .char (2 : Int32) [(.int (0 : Int32)), (.int (0 : Int32))] (.int (0 : Int32)) := (Arv.new A93 (by decide)).pad (pad_rep [] (.int (0 : Int32)) 2)
          have S103 : ∀ t, Steps p.tables e below (T93.setTop (mkF m 105 #[.val (.int kc), .val (.int lens), .val (.int q0), .val (.int q1), .val (.int q2), .val (.int (lens &&& (3 : Int32))), .val (.int (((lens.toUInt32 >>> ((2 : Int32) &&& 31).toUInt32).toInt32) &&& (3 : Int32))), .val (.int ((kc &&& (255 : Int32)).toUInt32.toUInt16.toUInt32.toInt32)), .val (.int ((((kc.toUInt32 >>> ((8 : Int32) &&& 31).toUInt32).toInt32) &&& (255 : Int32)).toUInt32.toUInt16.toUInt32.toInt32)), .val (.int ((((kc.toUInt32 >>> ((16 : Int32) &&& 31).toUInt32).toInt32) &&& (255 : Int32)).toUInt32.toUInt16.toUInt32.toInt32)), .unset, .unset, .unset, .unset, .unset, .unset, .unset, .unset, .unset] [(.int ((kc &&& (255 : Int32)).toUInt32.toUInt16.toUInt32.toInt32)), (.int (0 : Int32)), (.ref b93), (.ref b93), (.ref b85), (.ref b85)])) t → Steps p.tables e below (s₁.setTop (entryFrame m #[(.int kc), (.int lens), (.int q0), (.int q1), (.int q2)] maxLocals)) t := fun t kt => by
            refine S94 t ?_
            show Steps p.tables e below (T93.setTop (mkF m 101 #[.val (.int kc), .val (.int lens), .val (.int q0), .val (.int q1), .val (.int q2), .val (.int (lens &&& (3 : Int32))), .val (.int (((lens.toUInt32 >>> ((2 : Int32) &&& 31).toUInt32).toInt32) &&& (3 : Int32))), .val (.int ((kc &&& (255 : Int32)).toUInt32.toUInt16.toUInt32.toInt32)), .val (.int ((((kc.toUInt32 >>> ((8 : Int32) &&& 31).toUInt32).toInt32) &&& (255 : Int32)).toUInt32.toUInt16.toUInt32.toInt32)), .val (.int ((((kc.toUInt32 >>> ((16 : Int32) &&& 31).toUInt32).toInt32) &&& (255 : Int32)).toUInt32.toUInt16.toUInt32.toInt32)), .unset, .unset, .unset, .unset, .unset, .unset, .unset, .unset, .unset] [(.ref b93), (.ref b85), (.ref b85)])) t
            refine XS.dup X93.here hx rfl (hb hby at_101) rfl rfl ?_
            refine XS.iconst X93.here hx rfl (hb hby at_102) ?_
            refine XS.iload X93.here hx rfl (hb hby at_103) rfl ?_
            exact kt
          obtain ⟨cl104, Ar104, q104, Sz104, Nn104, Hh104, Gg104⟩ := id V102
          have hin104 : ¬ ((0 : Int32) < 0 ∨ cl104.slots.size ≤ ((0 : Int32)).toNatClampNeg) := inb_of Sz104 ⟨by decide, by decide⟩
          obtain ⟨T105, h105, X105, e105, W105, st105⟩ := stC X93 hx hZ e93 Ar104 (j := (0 : Int32)) hin104 (g := (mkF m 105 #[.val (.int kc), .val (.int lens), .val (.int q0), .val (.int q1), .val (.int q2), .val (.int (lens &&& (3 : Int32))), .val (.int (((lens.toUInt32 >>> ((2 : Int32) &&& 31).toUInt32).toInt32) &&& (3 : Int32))), .val (.int ((kc &&& (255 : Int32)).toUInt32.toUInt16.toUInt32.toInt32)), .val (.int ((((kc.toUInt32 >>> ((8 : Int32) &&& 31).toUInt32).toInt32) &&& (255 : Int32)).toUInt32.toUInt16.toUInt32.toInt32)), .val (.int ((((kc.toUInt32 >>> ((16 : Int32) &&& 31).toUInt32).toInt32) &&& (255 : Int32)).toUInt32.toUInt16.toUInt32.toInt32)), .unset, .unset, .unset, .unset, .unset, .unset, .unset, .unset, .unset] [(.int ((kc &&& (255 : Int32)).toUInt32.toUInt16.toUInt32.toInt32)), (.int (0 : Int32)), (.ref b93), (.ref b93), (.ref b85), (.ref b85)])) rfl rfl (hb hby at_105)
          have S106 : ∀ t, Steps p.tables e below (T105.setTop (mkF m 106 #[.val (.int kc), .val (.int lens), .val (.int q0), .val (.int q1), .val (.int q2), .val (.int (lens &&& (3 : Int32))), .val (.int (((lens.toUInt32 >>> ((2 : Int32) &&& 31).toUInt32).toInt32) &&& (3 : Int32))), .val (.int ((kc &&& (255 : Int32)).toUInt32.toUInt16.toUInt32.toInt32)), .val (.int ((((kc.toUInt32 >>> ((8 : Int32) &&& 31).toUInt32).toInt32) &&& (255 : Int32)).toUInt32.toUInt16.toUInt32.toInt32)), .val (.int ((((kc.toUInt32 >>> ((16 : Int32) &&& 31).toUInt32).toInt32) &&& (255 : Int32)).toUInt32.toUInt16.toUInt32.toInt32)), .unset, .unset, .unset, .unset, .unset, .unset, .unset, .unset, .unset] [(.ref b93), (.ref b85), (.ref b85)])) t → Steps p.tables e below (s₁.setTop (entryFrame m #[(.int kc), (.int lens), (.int q0), (.int q1), (.int q2)] maxLocals)) t := fun t kt => S103 t (st105 _ kt)
          have V107 := Arv.set Ar104 q104 Sz104 Nn104 Hh104 Gg104 (fits_nar_char _) W105 0 rfl (Nat.le_of_ble_eq_true rfl)
          have Sf108 := Safe.wr W105 Sf_b93 CR96.1 Sf95
          have Sf109 := Safe.wr W105 Sf_b93 CR96.1 Sf_b93
          have CR110 := CR96.trans (CHr.wr W105 Sf_b93 CR96.1)
          have F111 := F97.wr W105
          have F112 := F98.wr W105
          have F113 := F99.other W105 (Or.inl ne_b85_b93)
          have F114 := F100.other W105 (Or.inl ne_b85_b93)
          have N115 := Fr.snoc X105 N0 g_b93
          have K116 : Keep h0 h105 [] := K101.wr W105 (Or.inr sz_b93)
          have S117 : ∀ t, Steps p.tables e below (T105.setTop (mkF m 110 #[.val (.int kc), .val (.int lens), .val (.int q0), .val (.int q1), .val (.int q2), .val (.int (lens &&& (3 : Int32))), .val (.int (((lens.toUInt32 >>> ((2 : Int32) &&& 31).toUInt32).toInt32) &&& (3 : Int32))), .val (.int ((kc &&& (255 : Int32)).toUInt32.toUInt16.toUInt32.toInt32)), .val (.int ((((kc.toUInt32 >>> ((8 : Int32) &&& 31).toUInt32).toInt32) &&& (255 : Int32)).toUInt32.toUInt16.toUInt32.toInt32)), .val (.int ((((kc.toUInt32 >>> ((16 : Int32) &&& 31).toUInt32).toInt32) &&& (255 : Int32)).toUInt32.toUInt16.toUInt32.toInt32)), .unset, .unset, .unset, .unset, .unset, .unset, .unset, .unset, .unset] [(.int ((((kc.toUInt32 >>> ((8 : Int32) &&& 31).toUInt32).toInt32) &&& (255 : Int32)).toUInt32.toUInt16.toUInt32.toInt32)), (.int (1 : Int32)), (.ref b93), (.ref b93), (.ref b85), (.ref b85)])) t → Steps p.tables e below (s₁.setTop (entryFrame m #[(.int kc), (.int lens), (.int q0), (.int q1), (.int q2)] maxLocals)) t := fun t kt => by
            refine S106 t ?_
            show Steps p.tables e below (T105.setTop (mkF m 106 #[.val (.int kc), .val (.int lens), .val (.int q0), .val (.int q1), .val (.int q2), .val (.int (lens &&& (3 : Int32))), .val (.int (((lens.toUInt32 >>> ((2 : Int32) &&& 31).toUInt32).toInt32) &&& (3 : Int32))), .val (.int ((kc &&& (255 : Int32)).toUInt32.toUInt16.toUInt32.toInt32)), .val (.int ((((kc.toUInt32 >>> ((8 : Int32) &&& 31).toUInt32).toInt32) &&& (255 : Int32)).toUInt32.toUInt16.toUInt32.toInt32)), .val (.int ((((kc.toUInt32 >>> ((16 : Int32) &&& 31).toUInt32).toInt32) &&& (255 : Int32)).toUInt32.toUInt16.toUInt32.toInt32)), .unset, .unset, .unset, .unset, .unset, .unset, .unset, .unset, .unset] [(.ref b93), (.ref b85), (.ref b85)])) t
            refine XS.dup X105.here hx rfl (hb hby at_106) rfl rfl ?_
            refine XS.iconst X105.here hx rfl (hb hby at_107) ?_
            refine XS.iload X105.here hx rfl (hb hby at_108) rfl ?_
            exact kt
          obtain ⟨cl118, Ar118, q118, Sz118, Nn118, Hh118, Gg118⟩ := id V107
          have hin118 : ¬ ((1 : Int32) < 0 ∨ cl118.slots.size ≤ ((1 : Int32)).toNatClampNeg) := inb_of Sz118 ⟨by decide, by decide⟩
          obtain ⟨T119, h119, X119, e119, W119, st119⟩ := stC X105 hx hZ e105 Ar118 (j := (1 : Int32)) hin118 (g := (mkF m 110 #[.val (.int kc), .val (.int lens), .val (.int q0), .val (.int q1), .val (.int q2), .val (.int (lens &&& (3 : Int32))), .val (.int (((lens.toUInt32 >>> ((2 : Int32) &&& 31).toUInt32).toInt32) &&& (3 : Int32))), .val (.int ((kc &&& (255 : Int32)).toUInt32.toUInt16.toUInt32.toInt32)), .val (.int ((((kc.toUInt32 >>> ((8 : Int32) &&& 31).toUInt32).toInt32) &&& (255 : Int32)).toUInt32.toUInt16.toUInt32.toInt32)), .val (.int ((((kc.toUInt32 >>> ((16 : Int32) &&& 31).toUInt32).toInt32) &&& (255 : Int32)).toUInt32.toUInt16.toUInt32.toInt32)), .unset, .unset, .unset, .unset, .unset, .unset, .unset, .unset, .unset] [(.int ((((kc.toUInt32 >>> ((8 : Int32) &&& 31).toUInt32).toInt32) &&& (255 : Int32)).toUInt32.toUInt16.toUInt32.toInt32)), (.int (1 : Int32)), (.ref b93), (.ref b93), (.ref b85), (.ref b85)])) rfl rfl (hb hby at_110)
          have S120 : ∀ t, Steps p.tables e below (T119.setTop (mkF m 111 #[.val (.int kc), .val (.int lens), .val (.int q0), .val (.int q1), .val (.int q2), .val (.int (lens &&& (3 : Int32))), .val (.int (((lens.toUInt32 >>> ((2 : Int32) &&& 31).toUInt32).toInt32) &&& (3 : Int32))), .val (.int ((kc &&& (255 : Int32)).toUInt32.toUInt16.toUInt32.toInt32)), .val (.int ((((kc.toUInt32 >>> ((8 : Int32) &&& 31).toUInt32).toInt32) &&& (255 : Int32)).toUInt32.toUInt16.toUInt32.toInt32)), .val (.int ((((kc.toUInt32 >>> ((16 : Int32) &&& 31).toUInt32).toInt32) &&& (255 : Int32)).toUInt32.toUInt16.toUInt32.toInt32)), .unset, .unset, .unset, .unset, .unset, .unset, .unset, .unset, .unset] [(.ref b93), (.ref b85), (.ref b85)])) t → Steps p.tables e below (s₁.setTop (entryFrame m #[(.int kc), (.int lens), (.int q0), (.int q1), (.int q2)] maxLocals)) t := fun t kt => S117 t (st119 _ kt)
          have V121 := Arv.set Ar118 q118 Sz118 Nn118 Hh118 Gg118 (fits_nar_char _) W119 1 rfl (Nat.le_of_ble_eq_true rfl)
          have Sf122 := Safe.wr W119 Sf109 CR110.1 Sf108
          have Sf123 := Safe.wr W119 Sf109 CR110.1 Sf109
          have CR124 := CR110.trans (CHr.wr W119 Sf109 CR110.1)
          have F125 := F111.wr W119
          have F126 := F112.wr W119
          have F127 := F113.other W119 (Or.inl ne_b85_b93)
          have F128 := F114.other W119 (Or.inl ne_b85_b93)
          have N129 := Fr.snoc X119 N115 g_b93
          have K130 : Keep h0 h119 [] := K116.wr W119 (Or.inr sz_b93)
          obtain ⟨_, _, ⟨T133, L133, k133, n133⟩, -, X133, ⟨Lc133, hQ133, l133, y133, z133⟩, st133⟩ := X119.specialBack hx (y := (⟨"java/lang/String", "<init>", "([C)V"⟩ : MethodName)) rfl hown (mvT hZ (hw _ (List.mem_of_getElem? (i := 4) rfl))) (mvT hZ (hw _ (List.mem_of_getElem? (i := 5) rfl))) (mvT hZ (hw _ (List.mem_of_getElem? (i := 6) rfl))) (by decide) (backOf (W := 1) (own_rm1k2 l Z a0 hw [] (b85) (b93) ((nar .char ((kc &&& (255 : Int32)).toUInt32.toUInt16.toUInt32.toInt32))) ((nar .char ((((kc.toUInt32 >>> ((8 : Int32) &&& 31).toUInt32).toInt32) &&& (255 : Int32)).toUInt32.toUInt16.toUInt32.toInt32))) (k93) (cs) (.null) ((.int (0 : Int32))) h119 n0 (Nat.le_trans Z0 K130.1) F126 g_b85 F128 F127 F125 hcs V121 (own_lat8 _) (own_lat8 _)) hZ (hw _ (List.mem_of_getElem? (i := 6) rfl)) (hw _ (List.mem_of_getElem? (i := 2) rfl)) (by decide) (by decide)) (g := (mkF m 111 #[.val (.int kc), .val (.int lens), .val (.int q0), .val (.int q1), .val (.int q2), .val (.int (lens &&& (3 : Int32))), .val (.int (((lens.toUInt32 >>> ((2 : Int32) &&& 31).toUInt32).toInt32) &&& (3 : Int32))), .val (.int ((kc &&& (255 : Int32)).toUInt32.toUInt16.toUInt32.toInt32)), .val (.int ((((kc.toUInt32 >>> ((8 : Int32) &&& 31).toUInt32).toInt32) &&& (255 : Int32)).toUInt32.toUInt16.toUInt32.toInt32)), .val (.int ((((kc.toUInt32 >>> ((16 : Int32) &&& 31).toUInt32).toInt32) &&& (255 : Int32)).toUInt32.toUInt16.toUInt32.toInt32)), .unset, .unset, .unset, .unset, .unset, .unset, .unset, .unset, .unset] [(.ref b93), (.ref b85), (.ref b85)])) rfl (by rw [hml]; rfl) (Steps.refl _) (a := b85) (argsL := [(.ref b93)]) (rest := [(.ref b85)]) (lenOf own_pd6 rfl) rfl (by show 2 * 0 + _ ≤ _; exact Nat.le_of_eq rfl) (hb hby at_111) (fun _ _ => ⟨rfl, e119, (by decide : 2 + 1 ≤ _), (by decide : 6 + 2 ≤ _)⟩)
          dsimp only [Pt.U, Pt.locs, Pt.cells, Pt.slots] at X133 l133 y133 z133 st133 hQ133
          subst l133 y133 z133
          obtain ⟨rfl, Nq133, Kc131, Ec131, Cc131, tb131, kt131, gt131, sz131, nat131, Fv131, Va131⟩ := hQ133
          have N134 := Fr.app N129 Nq133
          have S135 : ∀ t, Steps p.tables e below (T133.setTop (mkF m 114 #[.val (.int kc), .val (.int lens), .val (.int q0), .val (.int q1), .val (.int q2), .val (.int (lens &&& (3 : Int32))), .val (.int (((lens.toUInt32 >>> ((2 : Int32) &&& 31).toUInt32).toInt32) &&& (3 : Int32))), .val (.int ((kc &&& (255 : Int32)).toUInt32.toUInt16.toUInt32.toInt32)), .val (.int ((((kc.toUInt32 >>> ((8 : Int32) &&& 31).toUInt32).toInt32) &&& (255 : Int32)).toUInt32.toUInt16.toUInt32.toInt32)), .val (.int ((((kc.toUInt32 >>> ((16 : Int32) &&& 31).toUInt32).toInt32) &&& (255 : Int32)).toUInt32.toUInt16.toUInt32.toInt32)), .unset, .unset, .unset, .unset, .unset, .unset, .unset, .unset, .unset] [(.ref b85)])) t → Steps p.tables e below (s₁.setTop (entryFrame m #[(.int kc), (.int lens), (.int q0), (.int q1), (.int q2)] maxLocals)) t := fun t kt => S120 t (st133.trans kt)
          have Sf136 := Safe.keep Kc131 (allS Sf122 all0) CR124.1 Sf122
          have Sf137 := Safe.keep Kc131 (allS Sf122 all0) CR124.1 Sf123
          have CR138 := CR124.trans (CHr.keep Kc131 (allS Sf122 all0) CR124.1)
          have F139 := own_StaK F125 Kc131 (allS (own_ExaS F126) all0)
          have F140 := F126.keep Kc131
          have F141 := V121.keep Kc131 (ninS (Ne.symm ne_b85_b93) nin0)
          have K142 : Keep h0 T133.heap [] := K130.trans Kc131 (allS (Or.inr sz_b85) all0)
          have ne_b93_tb131 : b93 ≠ tb131 := Nat.ne_of_lt (Nat.lt_of_lt_of_le V121.lt sz131)
          have S143 : ∀ t, Steps p.tables e below (T133.setTop (mkF m 146 #[.val (.int kc), .val (.int lens), .val (.int q0), .val (.int q1), .val (.int q2), .val (.int (lens &&& (3 : Int32))), .val (.int (((lens.toUInt32 >>> ((2 : Int32) &&& 31).toUInt32).toInt32) &&& (3 : Int32))), .val (.int ((kc &&& (255 : Int32)).toUInt32.toUInt16.toUInt32.toInt32)), .val (.int ((((kc.toUInt32 >>> ((8 : Int32) &&& 31).toUInt32).toInt32) &&& (255 : Int32)).toUInt32.toUInt16.toUInt32.toInt32)), .val (.int ((((kc.toUInt32 >>> ((16 : Int32) &&& 31).toUInt32).toInt32) &&& (255 : Int32)).toUInt32.toUInt16.toUInt32.toInt32)), .val (.ref b85), .unset, .unset, .unset, .unset, .unset, .unset, .unset, .unset] [])) t → Steps p.tables e below (s₁.setTop (entryFrame m #[(.int kc), (.int lens), (.int q0), (.int q1), (.int q2)] maxLocals)) t := fun t kt => by
            refine S135 t ?_
            show Steps p.tables e below (T133.setTop (mkF m 114 #[.val (.int kc), .val (.int lens), .val (.int q0), .val (.int q1), .val (.int q2), .val (.int (lens &&& (3 : Int32))), .val (.int (((lens.toUInt32 >>> ((2 : Int32) &&& 31).toUInt32).toInt32) &&& (3 : Int32))), .val (.int ((kc &&& (255 : Int32)).toUInt32.toUInt16.toUInt32.toInt32)), .val (.int ((((kc.toUInt32 >>> ((8 : Int32) &&& 31).toUInt32).toInt32) &&& (255 : Int32)).toUInt32.toUInt16.toUInt32.toInt32)), .val (.int ((((kc.toUInt32 >>> ((16 : Int32) &&& 31).toUInt32).toInt32) &&& (255 : Int32)).toUInt32.toUInt16.toUInt32.toInt32)), .unset, .unset, .unset, .unset, .unset, .unset, .unset, .unset, .unset] [(.ref b85)])) t
            refine XS.astore X133.here hx rfl (hb hby at_114) rfl rfl (l' := #[.val (.int kc), .val (.int lens), .val (.int q0), .val (.int q1), .val (.int q2), .val (.int (lens &&& (3 : Int32))), .val (.int (((lens.toUInt32 >>> ((2 : Int32) &&& 31).toUInt32).toInt32) &&& (3 : Int32))), .val (.int ((kc &&& (255 : Int32)).toUInt32.toUInt16.toUInt32.toInt32)), .val (.int ((((kc.toUInt32 >>> ((8 : Int32) &&& 31).toUInt32).toInt32) &&& (255 : Int32)).toUInt32.toUInt16.toUInt32.toInt32)), .val (.int ((((kc.toUInt32 >>> ((16 : Int32) &&& 31).toUInt32).toInt32) &&& (255 : Int32)).toUInt32.toUInt16.toUInt32.toInt32)), .val (.ref b85), .unset, .unset, .unset, .unset, .unset, .unset, .unset, .unset]) rfl ?_
            refine XS.goto X133.here hx rfl (pc0 := 116) (pc' := 146) rfl (hb hby at_116) (by decide) (by decide) ?_
            exact kt
          exact ⟨T133, T133.heap, s.vm, _, _, (b85), X133.more (by decide) (by decide), rfl, hS0, (Nat.le_trans (Nat.le_trans (Nat.le_trans (Nat.le_trans (Nat.le_trans (Nat.le_refl _) E85.1) E93.1) (Keep.of_wr W105).1) (Keep.of_wr W119).1) Kc131.1), hZ, hown, CR138, N134, K142, Ec131, S143⟩
        · skip
          have S144 : ∀ t, Steps p.tables e below (s₁.setTop (mkF m 119 #[.val (.int kc), .val (.int lens), .val (.int q0), .val (.int q1), .val (.int q2), .val (.int (lens &&& (3 : Int32))), .val (.int (((lens.toUInt32 >>> ((2 : Int32) &&& 31).toUInt32).toInt32) &&& (3 : Int32))), .val (.int ((kc &&& (255 : Int32)).toUInt32.toUInt16.toUInt32.toInt32)), .val (.int ((((kc.toUInt32 >>> ((8 : Int32) &&& 31).toUInt32).toInt32) &&& (255 : Int32)).toUInt32.toUInt16.toUInt32.toInt32)), .val (.int ((((kc.toUInt32 >>> ((16 : Int32) &&& 31).toUInt32).toInt32) &&& (255 : Int32)).toUInt32.toUInt16.toUInt32.toInt32)), .unset, .unset, .unset, .unset, .unset, .unset, .unset, .unset, .unset] [])) t → Steps p.tables e below (s₁.setTop (entryFrame m #[(.int kc), (.int lens), (.int q0), (.int q1), (.int q2)] maxLocals)) t := fun t kt => by
            refine S83 t ?_
            show Steps p.tables e below (s₁.setTop (mkF m 91 #[.val (.int kc), .val (.int lens), .val (.int q0), .val (.int q1), .val (.int q2), .val (.int (lens &&& (3 : Int32))), .val (.int (((lens.toUInt32 >>> ((2 : Int32) &&& 31).toUInt32).toInt32) &&& (3 : Int32))), .val (.int ((kc &&& (255 : Int32)).toUInt32.toUInt16.toUInt32.toInt32)), .val (.int ((((kc.toUInt32 >>> ((8 : Int32) &&& 31).toUInt32).toInt32) &&& (255 : Int32)).toUInt32.toUInt16.toUInt32.toInt32)), .val (.int ((((kc.toUInt32 >>> ((16 : Int32) &&& 31).toUInt32).toInt32) &&& (255 : Int32)).toUInt32.toUInt16.toUInt32.toInt32)), .unset, .unset, .unset, .unset, .unset, .unset, .unset, .unset, .unset] [(.int (2 : Int32)), (.int (lens &&& (3 : Int32)))])) t
            refine XS.icmpYes X0.here hx rfl (pc0 := 91) (pc' := 119) rfl (hb hby at_91) rfl (feq hc91).2 (by decide) (by decide) ?_
            exact kt
          obtain ⟨T145, h145, X145, e145, E145, A145, D145, -, st145⟩ := newO X0 hx hZ hown (hw _ (List.mem_of_getElem? (i := 0) rfl)) (hw _ (List.mem_of_getElem? (i := 1) rfl)) (hw _ (List.mem_of_getElem? (i := 2) rfl)) e0 (g := (mkF m 119 #[.val (.int kc), .val (.int lens), .val (.int q0), .val (.int q1), .val (.int q2), .val (.int (lens &&& (3 : Int32))), .val (.int (((lens.toUInt32 >>> ((2 : Int32) &&& 31).toUInt32).toInt32) &&& (3 : Int32))), .val (.int ((kc &&& (255 : Int32)).toUInt32.toUInt16.toUInt32.toInt32)), .val (.int ((((kc.toUInt32 >>> ((8 : Int32) &&& 31).toUInt32).toInt32) &&& (255 : Int32)).toUInt32.toUInt16.toUInt32.toInt32)), .val (.int ((((kc.toUInt32 >>> ((16 : Int32) &&& 31).toUInt32).toInt32) &&& (255 : Int32)).toUInt32.toUInt16.toUInt32.toInt32)), .unset, .unset, .unset, .unset, .unset, .unset, .unset, .unset, .unset] [])) rfl (hb hby at_119) (by decide) (by decide)
          obtain ⟨b145, g145⟩ : ∃ z, z = h0.size := ⟨_, rfl⟩
          rw [← g145] at A145 D145 st145
          have S146 : ∀ t, Steps p.tables e below (T145.setTop (mkF m 122 #[.val (.int kc), .val (.int lens), .val (.int q0), .val (.int q1), .val (.int q2), .val (.int (lens &&& (3 : Int32))), .val (.int (((lens.toUInt32 >>> ((2 : Int32) &&& 31).toUInt32).toInt32) &&& (3 : Int32))), .val (.int ((kc &&& (255 : Int32)).toUInt32.toUInt16.toUInt32.toInt32)), .val (.int ((((kc.toUInt32 >>> ((8 : Int32) &&& 31).toUInt32).toInt32) &&& (255 : Int32)).toUInt32.toUInt16.toUInt32.toInt32)), .val (.int ((((kc.toUInt32 >>> ((16 : Int32) &&& 31).toUInt32).toInt32) &&& (255 : Int32)).toUInt32.toUInt16.toUInt32.toInt32)), .unset, .unset, .unset, .unset, .unset, .unset, .unset, .unset, .unset] [(.ref b145)])) t → Steps p.tables e below (s₁.setTop (entryFrame m #[(.int kc), (.int lens), (.int q0), (.int q1), (.int q2)] maxLocals)) t := fun t kt => S144 t (st145 _ kt)
          have Sf_b145 : Safe Z own_EL s.vm h145 b145 := Safe.ext E145 CR0.1 (Safe.new (Nat.le_of_eq g145.symm))
          have CR147 := CR0.trans (CHr.ext E145 CR0.1)
          have g_b145 : n0 ≤ b145 := Nat.le_trans Z0 (Nat.le_of_eq g145.symm)
          have sz_b145 : h0.size ≤ b145 := Nat.le_trans (Keep.refl h0 []).1 (Nat.le_of_eq g145.symm)
          have F148 := S_CS.ext E145
          have K149 : Keep h0 h145 [] := (Keep.refl h0 []).ext E145
          have F150 : Fld Z h145 b145 "java/lang/String" "coder" "B" (.int (0 : Int32)) := D145 (Or.inr (hw _ (List.mem_of_getElem? (i := 27) rfl))) (ty := .byte) (by decide)
          have F151 : Fld Z h145 b145 "java/lang/String" "value" "[B" .null := D145 (Or.inr (hw _ (List.mem_of_getElem? (i := 29) rfl))) (ty := (.array .byte)) (by decide)
          have S152 : ∀ t, Steps p.tables e below (T145.setTop (mkF m 124 #[.val (.int kc), .val (.int lens), .val (.int q0), .val (.int q1), .val (.int q2), .val (.int (lens &&& (3 : Int32))), .val (.int (((lens.toUInt32 >>> ((2 : Int32) &&& 31).toUInt32).toInt32) &&& (3 : Int32))), .val (.int ((kc &&& (255 : Int32)).toUInt32.toUInt16.toUInt32.toInt32)), .val (.int ((((kc.toUInt32 >>> ((8 : Int32) &&& 31).toUInt32).toInt32) &&& (255 : Int32)).toUInt32.toUInt16.toUInt32.toInt32)), .val (.int ((((kc.toUInt32 >>> ((16 : Int32) &&& 31).toUInt32).toInt32) &&& (255 : Int32)).toUInt32.toUInt16.toUInt32.toInt32)), .unset, .unset, .unset, .unset, .unset, .unset, .unset, .unset, .unset] [(.int (3 : Int32)), (.ref b145), (.ref b145)])) t → Steps p.tables e below (s₁.setTop (entryFrame m #[(.int kc), (.int lens), (.int q0), (.int q1), (.int q2)] maxLocals)) t := fun t kt => by
            refine S146 t ?_
            show Steps p.tables e below (T145.setTop (mkF m 122 #[.val (.int kc), .val (.int lens), .val (.int q0), .val (.int q1), .val (.int q2), .val (.int (lens &&& (3 : Int32))), .val (.int (((lens.toUInt32 >>> ((2 : Int32) &&& 31).toUInt32).toInt32) &&& (3 : Int32))), .val (.int ((kc &&& (255 : Int32)).toUInt32.toUInt16.toUInt32.toInt32)), .val (.int ((((kc.toUInt32 >>> ((8 : Int32) &&& 31).toUInt32).toInt32) &&& (255 : Int32)).toUInt32.toUInt16.toUInt32.toInt32)), .val (.int ((((kc.toUInt32 >>> ((16 : Int32) &&& 31).toUInt32).toInt32) &&& (255 : Int32)).toUInt32.toUInt16.toUInt32.toInt32)), .unset, .unset, .unset, .unset, .unset, .unset, .unset, .unset, .unset] [(.ref b145)])) t
            refine XS.dup X145.here hx rfl (hb hby at_122) rfl rfl ?_
            refine XS.iconst X145.here hx rfl (hb hby at_123) ?_
            exact kt
          obtain ⟨T153, h153, k153, X153, e153, E153, A153, st153⟩ := newP X145 hx hZ (hw _ (List.mem_of_getElem? (i := 3) rfl)) e145 (g := (mkF m 124 #[.val (.int kc), .val (.int lens), .val (.int q0), .val (.int q1), .val (.int q2), .val (.int (lens &&& (3 : Int32))), .val (.int (((lens.toUInt32 >>> ((2 : Int32) &&& 31).toUInt32).toInt32) &&& (3 : Int32))), .val (.int ((kc &&& (255 : Int32)).toUInt32.toUInt16.toUInt32.toInt32)), .val (.int ((((kc.toUInt32 >>> ((8 : Int32) &&& 31).toUInt32).toInt32) &&& (255 : Int32)).toUInt32.toUInt16.toUInt32.toInt32)), .val (.int ((((kc.toUInt32 >>> ((16 : Int32) &&& 31).toUInt32).toInt32) &&& (255 : Int32)).toUInt32.toUInt16.toUInt32.toInt32)), .unset, .unset, .unset, .unset, .unset, .unset, .unset, .unset, .unset] [(.int (3 : Int32)), (.ref b145), (.ref b145)])) rfl (hb hby at_124) rfl (by decide) (cap := 3) (by decide) (by decide) (by decide) (by decide)
          obtain ⟨b153, g153⟩ : ∃ z, z = h145.size := ⟨_, rfl⟩
          rw [← g153] at A153 st153
          have S154 : ∀ t, Steps p.tables e below (T153.setTop (mkF m 126 #[.val (.int kc), .val (.int lens), .val (.int q0), .val (.int q1), .val (.int q2), .val (.int (lens &&& (3 : Int32))), .val (.int (((lens.toUInt32 >>> ((2 : Int32) &&& 31).toUInt32).toInt32) &&& (3 : Int32))), .val (.int ((kc &&& (255 : Int32)).toUInt32.toUInt16.toUInt32.toInt32)), .val (.int ((((kc.toUInt32 >>> ((8 : Int32) &&& 31).toUInt32).toInt32) &&& (255 : Int32)).toUInt32.toUInt16.toUInt32.toInt32)), .val (.int ((((kc.toUInt32 >>> ((16 : Int32) &&& 31).toUInt32).toInt32) &&& (255 : Int32)).toUInt32.toUInt16.toUInt32.toInt32)), .unset, .unset, .unset, .unset, .unset, .unset, .unset, .unset, .unset] [(.ref b153), (.ref b145), (.ref b145)])) t → Steps p.tables e below (s₁.setTop (entryFrame m #[(.int kc), (.int lens), (.int q0), (.int q1), (.int q2)] maxLocals)) t := fun t kt => S152 t (st153 _ kt)
          have Sf_b153 : Safe Z own_EL s.vm h153 b153 := Safe.ext E153 CR147.1 (Safe.new (Nat.le_of_eq g153.symm))
          have Sf155 := Safe.ext E153 CR147.1 Sf_b145
          have CR156 := CR147.trans (CHr.ext E153 CR147.1)
          have g_b153 : n0 ≤ b153 := Nat.le_trans (Nat.le_trans Z0 K149.1) (Nat.le_of_eq g153.symm)
          have sz_b153 : h0.size ≤ b153 := Nat.le_trans K149.1 (Nat.le_of_eq g153.symm)
          have ne_b145_b153 : b145 ≠ b153 := Nat.ne_of_lt (Nat.lt_of_lt_of_le A145.lt (Nat.le_of_eq g153.symm))
          have F157 := F148.ext E153
          have F158 := A145.ext E153
          have F159 := F150.ext E153
          have F160 := F151.ext E153
          have K161 : Keep h0 h153 [] := K149.ext E153
          have V162 : Arv Z h153 b153 k153 .char (3 : Int32) [(.int (0 : Int32)), (.int (0 : Int32)), (.int (0 : Int32))] (.int (0 : Int32)) := (Arv.new A153 (by decide)).pad (pad_rep [] (.int (0 : Int32)) 3)
          have S163 : ∀ t, Steps p.tables e below (T153.setTop (mkF m 130 #[.val (.int kc), .val (.int lens), .val (.int q0), .val (.int q1), .val (.int q2), .val (.int (lens &&& (3 : Int32))), .val (.int (((lens.toUInt32 >>> ((2 : Int32) &&& 31).toUInt32).toInt32) &&& (3 : Int32))), .val (.int ((kc &&& (255 : Int32)).toUInt32.toUInt16.toUInt32.toInt32)), .val (.int ((((kc.toUInt32 >>> ((8 : Int32) &&& 31).toUInt32).toInt32) &&& (255 : Int32)).toUInt32.toUInt16.toUInt32.toInt32)), .val (.int ((((kc.toUInt32 >>> ((16 : Int32) &&& 31).toUInt32).toInt32) &&& (255 : Int32)).toUInt32.toUInt16.toUInt32.toInt32)), .unset, .unset, .unset, .unset, .unset, .unset, .unset, .unset, .unset] [(.int ((kc &&& (255 : Int32)).toUInt32.toUInt16.toUInt32.toInt32)), (.int (0 : Int32)), (.ref b153), (.ref b153), (.ref b145), (.ref b145)])) t → Steps p.tables e below (s₁.setTop (entryFrame m #[(.int kc), (.int lens), (.int q0), (.int q1), (.int q2)] maxLocals)) t := fun t kt => by
            refine S154 t ?_
            show Steps p.tables e below (T153.setTop (mkF m 126 #[.val (.int kc), .val (.int lens), .val (.int q0), .val (.int q1), .val (.int q2), .val (.int (lens &&& (3 : Int32))), .val (.int (((lens.toUInt32 >>> ((2 : Int32) &&& 31).toUInt32).toInt32) &&& (3 : Int32))), .val (.int ((kc &&& (255 : Int32)).toUInt32.toUInt16.toUInt32.toInt32)), .val (.int ((((kc.toUInt32 >>> ((8 : Int32) &&& 31).toUInt32).toInt32) &&& (255 : Int32)).toUInt32.toUInt16.toUInt32.toInt32)), .val (.int ((((kc.toUInt32 >>> ((16 : Int32) &&& 31).toUInt32).toInt32) &&& (255 : Int32)).toUInt32.toUInt16.toUInt32.toInt32)), .unset, .unset, .unset, .unset, .unset, .unset, .unset, .unset, .unset] [(.ref b153), (.ref b145), (.ref b145)])) t
            refine XS.dup X153.here hx rfl (hb hby at_126) rfl rfl ?_
            refine XS.iconst X153.here hx rfl (hb hby at_127) ?_
            refine XS.iload X153.here hx rfl (hb hby at_128) rfl ?_
            exact kt
          obtain ⟨cl164, Ar164, q164, Sz164, Nn164, Hh164, Gg164⟩ := id V162
          have hin164 : ¬ ((0 : Int32) < 0 ∨ cl164.slots.size ≤ ((0 : Int32)).toNatClampNeg) := inb_of Sz164 ⟨by decide, by decide⟩
          obtain ⟨T165, h165, X165, e165, W165, st165⟩ := stC X153 hx hZ e153 Ar164 (j := (0 : Int32)) hin164 (g := (mkF m 130 #[.val (.int kc), .val (.int lens), .val (.int q0), .val (.int q1), .val (.int q2), .val (.int (lens &&& (3 : Int32))), .val (.int (((lens.toUInt32 >>> ((2 : Int32) &&& 31).toUInt32).toInt32) &&& (3 : Int32))), .val (.int ((kc &&& (255 : Int32)).toUInt32.toUInt16.toUInt32.toInt32)), .val (.int ((((kc.toUInt32 >>> ((8 : Int32) &&& 31).toUInt32).toInt32) &&& (255 : Int32)).toUInt32.toUInt16.toUInt32.toInt32)), .val (.int ((((kc.toUInt32 >>> ((16 : Int32) &&& 31).toUInt32).toInt32) &&& (255 : Int32)).toUInt32.toUInt16.toUInt32.toInt32)), .unset, .unset, .unset, .unset, .unset, .unset, .unset, .unset, .unset] [(.int ((kc &&& (255 : Int32)).toUInt32.toUInt16.toUInt32.toInt32)), (.int (0 : Int32)), (.ref b153), (.ref b153), (.ref b145), (.ref b145)])) rfl rfl (hb hby at_130)
          have S166 : ∀ t, Steps p.tables e below (T165.setTop (mkF m 131 #[.val (.int kc), .val (.int lens), .val (.int q0), .val (.int q1), .val (.int q2), .val (.int (lens &&& (3 : Int32))), .val (.int (((lens.toUInt32 >>> ((2 : Int32) &&& 31).toUInt32).toInt32) &&& (3 : Int32))), .val (.int ((kc &&& (255 : Int32)).toUInt32.toUInt16.toUInt32.toInt32)), .val (.int ((((kc.toUInt32 >>> ((8 : Int32) &&& 31).toUInt32).toInt32) &&& (255 : Int32)).toUInt32.toUInt16.toUInt32.toInt32)), .val (.int ((((kc.toUInt32 >>> ((16 : Int32) &&& 31).toUInt32).toInt32) &&& (255 : Int32)).toUInt32.toUInt16.toUInt32.toInt32)), .unset, .unset, .unset, .unset, .unset, .unset, .unset, .unset, .unset] [(.ref b153), (.ref b145), (.ref b145)])) t → Steps p.tables e below (s₁.setTop (entryFrame m #[(.int kc), (.int lens), (.int q0), (.int q1), (.int q2)] maxLocals)) t := fun t kt => S163 t (st165 _ kt)
          have V167 := Arv.set Ar164 q164 Sz164 Nn164 Hh164 Gg164 (fits_nar_char _) W165 0 rfl (Nat.le_of_ble_eq_true rfl)
          have Sf168 := Safe.wr W165 Sf_b153 CR156.1 Sf155
          have Sf169 := Safe.wr W165 Sf_b153 CR156.1 Sf_b153
          have CR170 := CR156.trans (CHr.wr W165 Sf_b153 CR156.1)
          have F171 := F157.wr W165
          have F172 := F158.wr W165
          have F173 := F159.other W165 (Or.inl ne_b145_b153)
          have F174 := F160.other W165 (Or.inl ne_b145_b153)
          have N175 := Fr.snoc X165 N0 g_b153
          have K176 : Keep h0 h165 [] := K161.wr W165 (Or.inr sz_b153)
          have S177 : ∀ t, Steps p.tables e below (T165.setTop (mkF m 135 #[.val (.int kc), .val (.int lens), .val (.int q0), .val (.int q1), .val (.int q2), .val (.int (lens &&& (3 : Int32))), .val (.int (((lens.toUInt32 >>> ((2 : Int32) &&& 31).toUInt32).toInt32) &&& (3 : Int32))), .val (.int ((kc &&& (255 : Int32)).toUInt32.toUInt16.toUInt32.toInt32)), .val (.int ((((kc.toUInt32 >>> ((8 : Int32) &&& 31).toUInt32).toInt32) &&& (255 : Int32)).toUInt32.toUInt16.toUInt32.toInt32)), .val (.int ((((kc.toUInt32 >>> ((16 : Int32) &&& 31).toUInt32).toInt32) &&& (255 : Int32)).toUInt32.toUInt16.toUInt32.toInt32)), .unset, .unset, .unset, .unset, .unset, .unset, .unset, .unset, .unset] [(.int ((((kc.toUInt32 >>> ((8 : Int32) &&& 31).toUInt32).toInt32) &&& (255 : Int32)).toUInt32.toUInt16.toUInt32.toInt32)), (.int (1 : Int32)), (.ref b153), (.ref b153), (.ref b145), (.ref b145)])) t → Steps p.tables e below (s₁.setTop (entryFrame m #[(.int kc), (.int lens), (.int q0), (.int q1), (.int q2)] maxLocals)) t := fun t kt => by
            refine S166 t ?_
            show Steps p.tables e below (T165.setTop (mkF m 131 #[.val (.int kc), .val (.int lens), .val (.int q0), .val (.int q1), .val (.int q2), .val (.int (lens &&& (3 : Int32))), .val (.int (((lens.toUInt32 >>> ((2 : Int32) &&& 31).toUInt32).toInt32) &&& (3 : Int32))), .val (.int ((kc &&& (255 : Int32)).toUInt32.toUInt16.toUInt32.toInt32)), .val (.int ((((kc.toUInt32 >>> ((8 : Int32) &&& 31).toUInt32).toInt32) &&& (255 : Int32)).toUInt32.toUInt16.toUInt32.toInt32)), .val (.int ((((kc.toUInt32 >>> ((16 : Int32) &&& 31).toUInt32).toInt32) &&& (255 : Int32)).toUInt32.toUInt16.toUInt32.toInt32)), .unset, .unset, .unset, .unset, .unset, .unset, .unset, .unset, .unset] [(.ref b153), (.ref b145), (.ref b145)])) t
            refine XS.dup X165.here hx rfl (hb hby at_131) rfl rfl ?_
            refine XS.iconst X165.here hx rfl (hb hby at_132) ?_
            refine XS.iload X165.here hx rfl (hb hby at_133) rfl ?_
            exact kt
          obtain ⟨cl178, Ar178, q178, Sz178, Nn178, Hh178, Gg178⟩ := id V167
          have hin178 : ¬ ((1 : Int32) < 0 ∨ cl178.slots.size ≤ ((1 : Int32)).toNatClampNeg) := inb_of Sz178 ⟨by decide, by decide⟩
          obtain ⟨T179, h179, X179, e179, W179, st179⟩ := stC X165 hx hZ e165 Ar178 (j := (1 : Int32)) hin178 (g := (mkF m 135 #[.val (.int kc), .val (.int lens), .val (.int q0), .val (.int q1), .val (.int q2), .val (.int (lens &&& (3 : Int32))), .val (.int (((lens.toUInt32 >>> ((2 : Int32) &&& 31).toUInt32).toInt32) &&& (3 : Int32))), .val (.int ((kc &&& (255 : Int32)).toUInt32.toUInt16.toUInt32.toInt32)), .val (.int ((((kc.toUInt32 >>> ((8 : Int32) &&& 31).toUInt32).toInt32) &&& (255 : Int32)).toUInt32.toUInt16.toUInt32.toInt32)), .val (.int ((((kc.toUInt32 >>> ((16 : Int32) &&& 31).toUInt32).toInt32) &&& (255 : Int32)).toUInt32.toUInt16.toUInt32.toInt32)), .unset, .unset, .unset, .unset, .unset, .unset, .unset, .unset, .unset] [(.int ((((kc.toUInt32 >>> ((8 : Int32) &&& 31).toUInt32).toInt32) &&& (255 : Int32)).toUInt32.toUInt16.toUInt32.toInt32)), (.int (1 : Int32)), (.ref b153), (.ref b153), (.ref b145), (.ref b145)])) rfl rfl (hb hby at_135)
          have S180 : ∀ t, Steps p.tables e below (T179.setTop (mkF m 136 #[.val (.int kc), .val (.int lens), .val (.int q0), .val (.int q1), .val (.int q2), .val (.int (lens &&& (3 : Int32))), .val (.int (((lens.toUInt32 >>> ((2 : Int32) &&& 31).toUInt32).toInt32) &&& (3 : Int32))), .val (.int ((kc &&& (255 : Int32)).toUInt32.toUInt16.toUInt32.toInt32)), .val (.int ((((kc.toUInt32 >>> ((8 : Int32) &&& 31).toUInt32).toInt32) &&& (255 : Int32)).toUInt32.toUInt16.toUInt32.toInt32)), .val (.int ((((kc.toUInt32 >>> ((16 : Int32) &&& 31).toUInt32).toInt32) &&& (255 : Int32)).toUInt32.toUInt16.toUInt32.toInt32)), .unset, .unset, .unset, .unset, .unset, .unset, .unset, .unset, .unset] [(.ref b153), (.ref b145), (.ref b145)])) t → Steps p.tables e below (s₁.setTop (entryFrame m #[(.int kc), (.int lens), (.int q0), (.int q1), (.int q2)] maxLocals)) t := fun t kt => S177 t (st179 _ kt)
          have V181 := Arv.set Ar178 q178 Sz178 Nn178 Hh178 Gg178 (fits_nar_char _) W179 1 rfl (Nat.le_of_ble_eq_true rfl)
          have Sf182 := Safe.wr W179 Sf169 CR170.1 Sf168
          have Sf183 := Safe.wr W179 Sf169 CR170.1 Sf169
          have CR184 := CR170.trans (CHr.wr W179 Sf169 CR170.1)
          have F185 := F171.wr W179
          have F186 := F172.wr W179
          have F187 := F173.other W179 (Or.inl ne_b145_b153)
          have F188 := F174.other W179 (Or.inl ne_b145_b153)
          have N189 := Fr.snoc X179 N175 g_b153
          have K190 : Keep h0 h179 [] := K176.wr W179 (Or.inr sz_b153)
          have S191 : ∀ t, Steps p.tables e below (T179.setTop (mkF m 140 #[.val (.int kc), .val (.int lens), .val (.int q0), .val (.int q1), .val (.int q2), .val (.int (lens &&& (3 : Int32))), .val (.int (((lens.toUInt32 >>> ((2 : Int32) &&& 31).toUInt32).toInt32) &&& (3 : Int32))), .val (.int ((kc &&& (255 : Int32)).toUInt32.toUInt16.toUInt32.toInt32)), .val (.int ((((kc.toUInt32 >>> ((8 : Int32) &&& 31).toUInt32).toInt32) &&& (255 : Int32)).toUInt32.toUInt16.toUInt32.toInt32)), .val (.int ((((kc.toUInt32 >>> ((16 : Int32) &&& 31).toUInt32).toInt32) &&& (255 : Int32)).toUInt32.toUInt16.toUInt32.toInt32)), .unset, .unset, .unset, .unset, .unset, .unset, .unset, .unset, .unset] [(.int ((((kc.toUInt32 >>> ((16 : Int32) &&& 31).toUInt32).toInt32) &&& (255 : Int32)).toUInt32.toUInt16.toUInt32.toInt32)), (.int (2 : Int32)), (.ref b153), (.ref b153), (.ref b145), (.ref b145)])) t → Steps p.tables e below (s₁.setTop (entryFrame m #[(.int kc), (.int lens), (.int q0), (.int q1), (.int q2)] maxLocals)) t := fun t kt => by
            refine S180 t ?_
            show Steps p.tables e below (T179.setTop (mkF m 136 #[.val (.int kc), .val (.int lens), .val (.int q0), .val (.int q1), .val (.int q2), .val (.int (lens &&& (3 : Int32))), .val (.int (((lens.toUInt32 >>> ((2 : Int32) &&& 31).toUInt32).toInt32) &&& (3 : Int32))), .val (.int ((kc &&& (255 : Int32)).toUInt32.toUInt16.toUInt32.toInt32)), .val (.int ((((kc.toUInt32 >>> ((8 : Int32) &&& 31).toUInt32).toInt32) &&& (255 : Int32)).toUInt32.toUInt16.toUInt32.toInt32)), .val (.int ((((kc.toUInt32 >>> ((16 : Int32) &&& 31).toUInt32).toInt32) &&& (255 : Int32)).toUInt32.toUInt16.toUInt32.toInt32)), .unset, .unset, .unset, .unset, .unset, .unset, .unset, .unset, .unset] [(.ref b153), (.ref b145), (.ref b145)])) t
            refine XS.dup X179.here hx rfl (hb hby at_136) rfl rfl ?_
            refine XS.iconst X179.here hx rfl (hb hby at_137) ?_
            refine XS.iload X179.here hx rfl (hb hby at_138) rfl ?_
            exact kt
          obtain ⟨cl192, Ar192, q192, Sz192, Nn192, Hh192, Gg192⟩ := id V181
          have hin192 : ¬ ((2 : Int32) < 0 ∨ cl192.slots.size ≤ ((2 : Int32)).toNatClampNeg) := inb_of Sz192 ⟨by decide, by decide⟩
          obtain ⟨T193, h193, X193, e193, W193, st193⟩ := stC X179 hx hZ e179 Ar192 (j := (2 : Int32)) hin192 (g := (mkF m 140 #[.val (.int kc), .val (.int lens), .val (.int q0), .val (.int q1), .val (.int q2), .val (.int (lens &&& (3 : Int32))), .val (.int (((lens.toUInt32 >>> ((2 : Int32) &&& 31).toUInt32).toInt32) &&& (3 : Int32))), .val (.int ((kc &&& (255 : Int32)).toUInt32.toUInt16.toUInt32.toInt32)), .val (.int ((((kc.toUInt32 >>> ((8 : Int32) &&& 31).toUInt32).toInt32) &&& (255 : Int32)).toUInt32.toUInt16.toUInt32.toInt32)), .val (.int ((((kc.toUInt32 >>> ((16 : Int32) &&& 31).toUInt32).toInt32) &&& (255 : Int32)).toUInt32.toUInt16.toUInt32.toInt32)), .unset, .unset, .unset, .unset, .unset, .unset, .unset, .unset, .unset] [(.int ((((kc.toUInt32 >>> ((16 : Int32) &&& 31).toUInt32).toInt32) &&& (255 : Int32)).toUInt32.toUInt16.toUInt32.toInt32)), (.int (2 : Int32)), (.ref b153), (.ref b153), (.ref b145), (.ref b145)])) rfl rfl (hb hby at_140)
          have S194 : ∀ t, Steps p.tables e below (T193.setTop (mkF m 141 #[.val (.int kc), .val (.int lens), .val (.int q0), .val (.int q1), .val (.int q2), .val (.int (lens &&& (3 : Int32))), .val (.int (((lens.toUInt32 >>> ((2 : Int32) &&& 31).toUInt32).toInt32) &&& (3 : Int32))), .val (.int ((kc &&& (255 : Int32)).toUInt32.toUInt16.toUInt32.toInt32)), .val (.int ((((kc.toUInt32 >>> ((8 : Int32) &&& 31).toUInt32).toInt32) &&& (255 : Int32)).toUInt32.toUInt16.toUInt32.toInt32)), .val (.int ((((kc.toUInt32 >>> ((16 : Int32) &&& 31).toUInt32).toInt32) &&& (255 : Int32)).toUInt32.toUInt16.toUInt32.toInt32)), .unset, .unset, .unset, .unset, .unset, .unset, .unset, .unset, .unset] [(.ref b153), (.ref b145), (.ref b145)])) t → Steps p.tables e below (s₁.setTop (entryFrame m #[(.int kc), (.int lens), (.int q0), (.int q1), (.int q2)] maxLocals)) t := fun t kt => S191 t (st193 _ kt)
          have V195 := Arv.set Ar192 q192 Sz192 Nn192 Hh192 Gg192 (fits_nar_char _) W193 2 rfl (Nat.le_of_ble_eq_true rfl)
          have Sf196 := Safe.wr W193 Sf183 CR184.1 Sf182
          have Sf197 := Safe.wr W193 Sf183 CR184.1 Sf183
          have CR198 := CR184.trans (CHr.wr W193 Sf183 CR184.1)
          have F199 := F185.wr W193
          have F200 := F186.wr W193
          have F201 := F187.other W193 (Or.inl ne_b145_b153)
          have F202 := F188.other W193 (Or.inl ne_b145_b153)
          have N203 := Fr.snoc X193 N189 g_b153
          have K204 : Keep h0 h193 [] := K190.wr W193 (Or.inr sz_b153)
          obtain ⟨_, _, ⟨T207, L207, k207, n207⟩, -, X207, ⟨Lc207, hQ207, l207, y207, z207⟩, st207⟩ := X193.specialBack hx (y := (⟨"java/lang/String", "<init>", "([C)V"⟩ : MethodName)) rfl hown (mvT hZ (hw _ (List.mem_of_getElem? (i := 4) rfl))) (mvT hZ (hw _ (List.mem_of_getElem? (i := 5) rfl))) (mvT hZ (hw _ (List.mem_of_getElem? (i := 6) rfl))) (by decide) (backOf (W := 1) (own_rm1k3 l Z a0 hw [] (b145) (b153) ((nar .char ((kc &&& (255 : Int32)).toUInt32.toUInt16.toUInt32.toInt32))) ((nar .char ((((kc.toUInt32 >>> ((8 : Int32) &&& 31).toUInt32).toInt32) &&& (255 : Int32)).toUInt32.toUInt16.toUInt32.toInt32))) ((nar .char ((((kc.toUInt32 >>> ((16 : Int32) &&& 31).toUInt32).toInt32) &&& (255 : Int32)).toUInt32.toUInt16.toUInt32.toInt32))) (k153) (cs) (.null) ((.int (0 : Int32))) h193 n0 (Nat.le_trans Z0 K204.1) F200 g_b145 F202 F201 F199 hcs V195 (own_lat8 _) (own_lat8 _) (own_lat8 _)) hZ (hw _ (List.mem_of_getElem? (i := 6) rfl)) (hw _ (List.mem_of_getElem? (i := 2) rfl)) (by decide) (by decide)) (g := (mkF m 141 #[.val (.int kc), .val (.int lens), .val (.int q0), .val (.int q1), .val (.int q2), .val (.int (lens &&& (3 : Int32))), .val (.int (((lens.toUInt32 >>> ((2 : Int32) &&& 31).toUInt32).toInt32) &&& (3 : Int32))), .val (.int ((kc &&& (255 : Int32)).toUInt32.toUInt16.toUInt32.toInt32)), .val (.int ((((kc.toUInt32 >>> ((8 : Int32) &&& 31).toUInt32).toInt32) &&& (255 : Int32)).toUInt32.toUInt16.toUInt32.toInt32)), .val (.int ((((kc.toUInt32 >>> ((16 : Int32) &&& 31).toUInt32).toInt32) &&& (255 : Int32)).toUInt32.toUInt16.toUInt32.toInt32)), .unset, .unset, .unset, .unset, .unset, .unset, .unset, .unset, .unset] [(.ref b153), (.ref b145), (.ref b145)])) rfl (by rw [hml]; rfl) (Steps.refl _) (a := b145) (argsL := [(.ref b153)]) (rest := [(.ref b145)]) (lenOf own_pd6 rfl) rfl (by show 2 * 0 + _ ≤ _; exact Nat.le_of_eq rfl) (hb hby at_141) (fun _ _ => ⟨rfl, e193, (by decide : 2 + 1 ≤ _), (by decide : 7 + 3 ≤ _)⟩)
          dsimp only [Pt.U, Pt.locs, Pt.cells, Pt.slots] at X207 l207 y207 z207 st207 hQ207
          subst l207 y207 z207
          obtain ⟨rfl, Nq207, Kc205, Ec205, Cc205, tb205, kt205, gt205, sz205, nat205, Fv205, Va205⟩ := hQ207
          have N208 := Fr.app N203 Nq207
          have S209 : ∀ t, Steps p.tables e below (T207.setTop (mkF m 144 #[.val (.int kc), .val (.int lens), .val (.int q0), .val (.int q1), .val (.int q2), .val (.int (lens &&& (3 : Int32))), .val (.int (((lens.toUInt32 >>> ((2 : Int32) &&& 31).toUInt32).toInt32) &&& (3 : Int32))), .val (.int ((kc &&& (255 : Int32)).toUInt32.toUInt16.toUInt32.toInt32)), .val (.int ((((kc.toUInt32 >>> ((8 : Int32) &&& 31).toUInt32).toInt32) &&& (255 : Int32)).toUInt32.toUInt16.toUInt32.toInt32)), .val (.int ((((kc.toUInt32 >>> ((16 : Int32) &&& 31).toUInt32).toInt32) &&& (255 : Int32)).toUInt32.toUInt16.toUInt32.toInt32)), .unset, .unset, .unset, .unset, .unset, .unset, .unset, .unset, .unset] [(.ref b145)])) t → Steps p.tables e below (s₁.setTop (entryFrame m #[(.int kc), (.int lens), (.int q0), (.int q1), (.int q2)] maxLocals)) t := fun t kt => S194 t (st207.trans kt)
          have Sf210 := Safe.keep Kc205 (allS Sf196 all0) CR198.1 Sf196
          have Sf211 := Safe.keep Kc205 (allS Sf196 all0) CR198.1 Sf197
          have CR212 := CR198.trans (CHr.keep Kc205 (allS Sf196 all0) CR198.1)
          have F213 := own_StaK F199 Kc205 (allS (own_ExaS F200) all0)
          have F214 := F200.keep Kc205
          have F215 := V195.keep Kc205 (ninS (Ne.symm ne_b145_b153) nin0)
          have K216 : Keep h0 T207.heap [] := K204.trans Kc205 (allS (Or.inr sz_b145) all0)
          have ne_b153_tb205 : b153 ≠ tb205 := Nat.ne_of_lt (Nat.lt_of_lt_of_le V195.lt sz205)
          have S217 : ∀ t, Steps p.tables e below (T207.setTop (mkF m 146 #[.val (.int kc), .val (.int lens), .val (.int q0), .val (.int q1), .val (.int q2), .val (.int (lens &&& (3 : Int32))), .val (.int (((lens.toUInt32 >>> ((2 : Int32) &&& 31).toUInt32).toInt32) &&& (3 : Int32))), .val (.int ((kc &&& (255 : Int32)).toUInt32.toUInt16.toUInt32.toInt32)), .val (.int ((((kc.toUInt32 >>> ((8 : Int32) &&& 31).toUInt32).toInt32) &&& (255 : Int32)).toUInt32.toUInt16.toUInt32.toInt32)), .val (.int ((((kc.toUInt32 >>> ((16 : Int32) &&& 31).toUInt32).toInt32) &&& (255 : Int32)).toUInt32.toUInt16.toUInt32.toInt32)), .val (.ref b145), .unset, .unset, .unset, .unset, .unset, .unset, .unset, .unset] [])) t → Steps p.tables e below (s₁.setTop (entryFrame m #[(.int kc), (.int lens), (.int q0), (.int q1), (.int q2)] maxLocals)) t := fun t kt => by
            refine S209 t ?_
            show Steps p.tables e below (T207.setTop (mkF m 144 #[.val (.int kc), .val (.int lens), .val (.int q0), .val (.int q1), .val (.int q2), .val (.int (lens &&& (3 : Int32))), .val (.int (((lens.toUInt32 >>> ((2 : Int32) &&& 31).toUInt32).toInt32) &&& (3 : Int32))), .val (.int ((kc &&& (255 : Int32)).toUInt32.toUInt16.toUInt32.toInt32)), .val (.int ((((kc.toUInt32 >>> ((8 : Int32) &&& 31).toUInt32).toInt32) &&& (255 : Int32)).toUInt32.toUInt16.toUInt32.toInt32)), .val (.int ((((kc.toUInt32 >>> ((16 : Int32) &&& 31).toUInt32).toInt32) &&& (255 : Int32)).toUInt32.toUInt16.toUInt32.toInt32)), .unset, .unset, .unset, .unset, .unset, .unset, .unset, .unset, .unset] [(.ref b145)])) t
            refine XS.astore X207.here hx rfl (hb hby at_144) rfl rfl (l' := #[.val (.int kc), .val (.int lens), .val (.int q0), .val (.int q1), .val (.int q2), .val (.int (lens &&& (3 : Int32))), .val (.int (((lens.toUInt32 >>> ((2 : Int32) &&& 31).toUInt32).toInt32) &&& (3 : Int32))), .val (.int ((kc &&& (255 : Int32)).toUInt32.toUInt16.toUInt32.toInt32)), .val (.int ((((kc.toUInt32 >>> ((8 : Int32) &&& 31).toUInt32).toInt32) &&& (255 : Int32)).toUInt32.toUInt16.toUInt32.toInt32)), .val (.int ((((kc.toUInt32 >>> ((16 : Int32) &&& 31).toUInt32).toInt32) &&& (255 : Int32)).toUInt32.toUInt16.toUInt32.toInt32)), .val (.ref b145), .unset, .unset, .unset, .unset, .unset, .unset, .unset, .unset]) rfl ?_
            exact kt
          exact ⟨T207, T207.heap, s.vm, _, _, (b145), X207.more (by decide) (by decide), rfl, hS0, (Nat.le_trans (Nat.le_trans (Nat.le_trans (Nat.le_trans (Nat.le_trans (Nat.le_trans (Nat.le_refl _) E145.1) E153.1) (Keep.of_wr W165).1) (Keep.of_wr W179).1) (Keep.of_wr W193).1) Kc205.1), hZ, hown, CR212, N208, K216, Ec205, S217⟩
  have S218 : ∀ t, Steps p.tables e below (T2.setTop (mkF m 161 #[.val (.int kc), .val (.int lens), .val (.int q0), .val (.int q1), .val (.int q2), .val (.int (lens &&& (3 : Int32))), .val (.int (((lens.toUInt32 >>> ((2 : Int32) &&& 31).toUInt32).toInt32) &&& (3 : Int32))), .val (.int ((kc &&& (255 : Int32)).toUInt32.toUInt16.toUInt32.toInt32)), .val (.int ((((kc.toUInt32 >>> ((8 : Int32) &&& 31).toUInt32).toInt32) &&& (255 : Int32)).toUInt32.toUInt16.toUInt32.toInt32)), .val (.int ((((kc.toUInt32 >>> ((16 : Int32) &&& 31).toUInt32).toInt32) &&& (255 : Int32)).toUInt32.toUInt16.toUInt32.toInt32)), .val (.ref ky), .val (.int (q0.toInt8.toInt32)), .val (.int (q1.toInt8.toInt32)), .val (.int (q2.toInt8.toInt32)), .unset, .unset, .unset, .unset, .unset] [(.int (((lens.toUInt32 >>> ((2 : Int32) &&& 31).toUInt32).toInt32) &&& (3 : Int32)))])) t → Steps p.tables e below (s₁.setTop (entryFrame m #[(.int kc), (.int lens), (.int q0), (.int q1), (.int q2)] maxLocals)) t := fun t kt => by
    refine S2 t ?_
    show Steps p.tables e below (T2.setTop (mkF m 146 #[.val (.int kc), .val (.int lens), .val (.int q0), .val (.int q1), .val (.int q2), .val (.int (lens &&& (3 : Int32))), .val (.int (((lens.toUInt32 >>> ((2 : Int32) &&& 31).toUInt32).toInt32) &&& (3 : Int32))), .val (.int ((kc &&& (255 : Int32)).toUInt32.toUInt16.toUInt32.toInt32)), .val (.int ((((kc.toUInt32 >>> ((8 : Int32) &&& 31).toUInt32).toInt32) &&& (255 : Int32)).toUInt32.toUInt16.toUInt32.toInt32)), .val (.int ((((kc.toUInt32 >>> ((16 : Int32) &&& 31).toUInt32).toInt32) &&& (255 : Int32)).toUInt32.toUInt16.toUInt32.toInt32)), .val (.ref ky), .unset, .unset, .unset, .unset, .unset, .unset, .unset, .unset] [])) t
    refine XS.iloadN X2.here hx rfl (hb hby at_146) rfl ?_
    refine XS.i2b X2.here hx rfl (hb hby at_147) rfl ?_
    refine XS.istore X2.here hx rfl (hb hby at_148) rfl (l' := #[.val (.int kc), .val (.int lens), .val (.int q0), .val (.int q1), .val (.int q2), .val (.int (lens &&& (3 : Int32))), .val (.int (((lens.toUInt32 >>> ((2 : Int32) &&& 31).toUInt32).toInt32) &&& (3 : Int32))), .val (.int ((kc &&& (255 : Int32)).toUInt32.toUInt16.toUInt32.toInt32)), .val (.int ((((kc.toUInt32 >>> ((8 : Int32) &&& 31).toUInt32).toInt32) &&& (255 : Int32)).toUInt32.toUInt16.toUInt32.toInt32)), .val (.int ((((kc.toUInt32 >>> ((16 : Int32) &&& 31).toUInt32).toInt32) &&& (255 : Int32)).toUInt32.toUInt16.toUInt32.toInt32)), .val (.ref ky), .val (.int (q0.toInt8.toInt32)), .unset, .unset, .unset, .unset, .unset, .unset, .unset]) rfl ?_
    refine XS.iloadN X2.here hx rfl (hb hby at_150) rfl ?_
    refine XS.i2b X2.here hx rfl (hb hby at_151) rfl ?_
    refine XS.istore X2.here hx rfl (hb hby at_152) rfl (l' := #[.val (.int kc), .val (.int lens), .val (.int q0), .val (.int q1), .val (.int q2), .val (.int (lens &&& (3 : Int32))), .val (.int (((lens.toUInt32 >>> ((2 : Int32) &&& 31).toUInt32).toInt32) &&& (3 : Int32))), .val (.int ((kc &&& (255 : Int32)).toUInt32.toUInt16.toUInt32.toInt32)), .val (.int ((((kc.toUInt32 >>> ((8 : Int32) &&& 31).toUInt32).toInt32) &&& (255 : Int32)).toUInt32.toUInt16.toUInt32.toInt32)), .val (.int ((((kc.toUInt32 >>> ((16 : Int32) &&& 31).toUInt32).toInt32) &&& (255 : Int32)).toUInt32.toUInt16.toUInt32.toInt32)), .val (.ref ky), .val (.int (q0.toInt8.toInt32)), .val (.int (q1.toInt8.toInt32)), .unset, .unset, .unset, .unset, .unset, .unset]) rfl ?_
    refine XS.iload X2.here hx rfl (hb hby at_154) rfl ?_
    refine XS.i2b X2.here hx rfl (hb hby at_156) rfl ?_
    refine XS.istore X2.here hx rfl (hb hby at_157) rfl (l' := #[.val (.int kc), .val (.int lens), .val (.int q0), .val (.int q1), .val (.int q2), .val (.int (lens &&& (3 : Int32))), .val (.int (((lens.toUInt32 >>> ((2 : Int32) &&& 31).toUInt32).toInt32) &&& (3 : Int32))), .val (.int ((kc &&& (255 : Int32)).toUInt32.toUInt16.toUInt32.toInt32)), .val (.int ((((kc.toUInt32 >>> ((8 : Int32) &&& 31).toUInt32).toInt32) &&& (255 : Int32)).toUInt32.toUInt16.toUInt32.toInt32)), .val (.int ((((kc.toUInt32 >>> ((16 : Int32) &&& 31).toUInt32).toInt32) &&& (255 : Int32)).toUInt32.toUInt16.toUInt32.toInt32)), .val (.ref ky), .val (.int (q0.toInt8.toInt32)), .val (.int (q1.toInt8.toInt32)), .val (.int (q2.toInt8.toInt32)), .unset, .unset, .unset, .unset, .unset]) rfl ?_
    refine XS.iload X2.here hx rfl (hb hby at_159) rfl ?_
    exact kt
  by_cases hc161 : (((lens.toUInt32 >>> ((2 : Int32) &&& 31).toUInt32).toInt32) &&& (3 : Int32)) = (0 : Int32)
  · skip
    have S219 : ∀ t, Steps p.tables e below (T2.setTop (mkF m 165 #[.val (.int kc), .val (.int lens), .val (.int q0), .val (.int q1), .val (.int q2), .val (.int (lens &&& (3 : Int32))), .val (.int (((lens.toUInt32 >>> ((2 : Int32) &&& 31).toUInt32).toInt32) &&& (3 : Int32))), .val (.int ((kc &&& (255 : Int32)).toUInt32.toUInt16.toUInt32.toInt32)), .val (.int ((((kc.toUInt32 >>> ((8 : Int32) &&& 31).toUInt32).toInt32) &&& (255 : Int32)).toUInt32.toUInt16.toUInt32.toInt32)), .val (.int ((((kc.toUInt32 >>> ((16 : Int32) &&& 31).toUInt32).toInt32) &&& (255 : Int32)).toUInt32.toUInt16.toUInt32.toInt32)), .val (.ref ky), .val (.int (q0.toInt8.toInt32)), .val (.int (q1.toInt8.toInt32)), .val (.int (q2.toInt8.toInt32)), .unset, .unset, .unset, .unset, .unset] [(.int (0 : Int32))])) t → Steps p.tables e below (s₁.setTop (entryFrame m #[(.int kc), (.int lens), (.int q0), (.int q1), (.int q2)] maxLocals)) t := fun t kt => by
      refine S218 t ?_
      show Steps p.tables e below (T2.setTop (mkF m 161 #[.val (.int kc), .val (.int lens), .val (.int q0), .val (.int q1), .val (.int q2), .val (.int (lens &&& (3 : Int32))), .val (.int (((lens.toUInt32 >>> ((2 : Int32) &&& 31).toUInt32).toInt32) &&& (3 : Int32))), .val (.int ((kc &&& (255 : Int32)).toUInt32.toUInt16.toUInt32.toInt32)), .val (.int ((((kc.toUInt32 >>> ((8 : Int32) &&& 31).toUInt32).toInt32) &&& (255 : Int32)).toUInt32.toUInt16.toUInt32.toInt32)), .val (.int ((((kc.toUInt32 >>> ((16 : Int32) &&& 31).toUInt32).toInt32) &&& (255 : Int32)).toUInt32.toUInt16.toUInt32.toInt32)), .val (.ref ky), .val (.int (q0.toInt8.toInt32)), .val (.int (q1.toInt8.toInt32)), .val (.int (q2.toInt8.toInt32)), .unset, .unset, .unset, .unset, .unset] [(.int (((lens.toUInt32 >>> ((2 : Int32) &&& 31).toUInt32).toInt32) &&& (3 : Int32)))])) t
      refine XS.ifNo X2.here hx rfl (hb hby at_161) rfl ((if0 _ _).trans (teq hc161).2) ?_
      refine XS.iconst X2.here hx rfl (hb hby at_164) ?_
      exact kt
    obtain ⟨T220, h220, k220, X220, e220, E220, A220, AE220, st220⟩ := newPE X2 hx hZ2 (hw _ (List.mem_of_getElem? (i := 19) rfl)) e2 (g := (mkF m 165 #[.val (.int kc), .val (.int lens), .val (.int q0), .val (.int q1), .val (.int q2), .val (.int (lens &&& (3 : Int32))), .val (.int (((lens.toUInt32 >>> ((2 : Int32) &&& 31).toUInt32).toInt32) &&& (3 : Int32))), .val (.int ((kc &&& (255 : Int32)).toUInt32.toUInt16.toUInt32.toInt32)), .val (.int ((((kc.toUInt32 >>> ((8 : Int32) &&& 31).toUInt32).toInt32) &&& (255 : Int32)).toUInt32.toUInt16.toUInt32.toInt32)), .val (.int ((((kc.toUInt32 >>> ((16 : Int32) &&& 31).toUInt32).toInt32) &&& (255 : Int32)).toUInt32.toUInt16.toUInt32.toInt32)), .val (.ref ky), .val (.int (q0.toInt8.toInt32)), .val (.int (q1.toInt8.toInt32)), .val (.int (q2.toInt8.toInt32)), .unset, .unset, .unset, .unset, .unset] [(.int (0 : Int32))])) rfl (hb hby at_165) rfl (by decide) (cap := 0) (by decide) (by decide) (by decide) (by decide) (ad := "[B") rfl
    obtain ⟨b220, g220⟩ : ∃ z, z = h2.size := ⟨_, rfl⟩
    rw [← g220] at A220 st220 AE220
    have S221 : ∀ t, Steps p.tables e below (T220.setTop (mkF m 167 #[.val (.int kc), .val (.int lens), .val (.int q0), .val (.int q1), .val (.int q2), .val (.int (lens &&& (3 : Int32))), .val (.int (((lens.toUInt32 >>> ((2 : Int32) &&& 31).toUInt32).toInt32) &&& (3 : Int32))), .val (.int ((kc &&& (255 : Int32)).toUInt32.toUInt16.toUInt32.toInt32)), .val (.int ((((kc.toUInt32 >>> ((8 : Int32) &&& 31).toUInt32).toInt32) &&& (255 : Int32)).toUInt32.toUInt16.toUInt32.toInt32)), .val (.int ((((kc.toUInt32 >>> ((16 : Int32) &&& 31).toUInt32).toInt32) &&& (255 : Int32)).toUInt32.toUInt16.toUInt32.toInt32)), .val (.ref ky), .val (.int (q0.toInt8.toInt32)), .val (.int (q1.toInt8.toInt32)), .val (.int (q2.toInt8.toInt32)), .unset, .unset, .unset, .unset, .unset] [(.ref b220)])) t → Steps p.tables e below (s₁.setTop (entryFrame m #[(.int kc), (.int lens), (.int q0), (.int q1), (.int q2)] maxLocals)) t := fun t kt => S219 t (st220 _ kt)
    have Sf_b220 : Safe Z own_EL vm2 h220 b220 := Safe.ext E220 CRj2.1 (Safe.new (Nat.le_of_eq g220.symm))
    have CR222 := CRj2.trans (CHr.ext E220 CRj2.1)
    have g_b220 : n0 ≤ b220 := Nat.le_trans (Nat.le_trans Z0 Kj2.1) (Nat.le_of_eq g220.symm)
    have sz_b220 : h0.size ≤ b220 := Nat.le_trans Kj2.1 (Nat.le_of_eq g220.symm)
    have ne_ky_b220 : ky ≠ b220 := Nat.ne_of_lt (Nat.lt_of_lt_of_le Fj2_0.lt (Nat.le_of_eq g220.symm))
    have F223 := Fj2_0.ext E220
    have K224 : Keep h0 h220 [] := Kj2.ext E220
    have V225 : Arv Z h220 b220 k220 .byte (0 : Int32) [] (.int (0 : Int32)) := Arv.new A220 (by decide)
    have S228 : ∀ t, Steps p.tables e below (T220.setTop (mkF m 239 #[.val (.int kc), .val (.int lens), .val (.int q0), .val (.int q1), .val (.int q2), .val (.int (lens &&& (3 : Int32))), .val (.int (((lens.toUInt32 >>> ((2 : Int32) &&& 31).toUInt32).toInt32) &&& (3 : Int32))), .val (.int ((kc &&& (255 : Int32)).toUInt32.toUInt16.toUInt32.toInt32)), .val (.int ((((kc.toUInt32 >>> ((8 : Int32) &&& 31).toUInt32).toInt32) &&& (255 : Int32)).toUInt32.toUInt16.toUInt32.toInt32)), .val (.int ((((kc.toUInt32 >>> ((16 : Int32) &&& 31).toUInt32).toInt32) &&& (255 : Int32)).toUInt32.toUInt16.toUInt32.toInt32)), .val (.ref ky), .val (.int (q0.toInt8.toInt32)), .val (.int (q1.toInt8.toInt32)), .val (.int (q2.toInt8.toInt32)), .val (.ref b220), .unset, .unset, .unset, .unset] [(.ref b220), (.ref ky)])) t → Steps p.tables e below (s₁.setTop (entryFrame m #[(.int kc), (.int lens), (.int q0), (.int q1), (.int q2)] maxLocals)) t := fun t kt => by
      refine S221 t ?_
      show Steps p.tables e below (T220.setTop (mkF m 167 #[.val (.int kc), .val (.int lens), .val (.int q0), .val (.int q1), .val (.int q2), .val (.int (lens &&& (3 : Int32))), .val (.int (((lens.toUInt32 >>> ((2 : Int32) &&& 31).toUInt32).toInt32) &&& (3 : Int32))), .val (.int ((kc &&& (255 : Int32)).toUInt32.toUInt16.toUInt32.toInt32)), .val (.int ((((kc.toUInt32 >>> ((8 : Int32) &&& 31).toUInt32).toInt32) &&& (255 : Int32)).toUInt32.toUInt16.toUInt32.toInt32)), .val (.int ((((kc.toUInt32 >>> ((16 : Int32) &&& 31).toUInt32).toInt32) &&& (255 : Int32)).toUInt32.toUInt16.toUInt32.toInt32)), .val (.ref ky), .val (.int (q0.toInt8.toInt32)), .val (.int (q1.toInt8.toInt32)), .val (.int (q2.toInt8.toInt32)), .unset, .unset, .unset, .unset, .unset] [(.ref b220)])) t
      refine XS.astore X220.here hx rfl (hb hby at_167) rfl rfl (l' := #[.val (.int kc), .val (.int lens), .val (.int q0), .val (.int q1), .val (.int q2), .val (.int (lens &&& (3 : Int32))), .val (.int (((lens.toUInt32 >>> ((2 : Int32) &&& 31).toUInt32).toInt32) &&& (3 : Int32))), .val (.int ((kc &&& (255 : Int32)).toUInt32.toUInt16.toUInt32.toInt32)), .val (.int ((((kc.toUInt32 >>> ((8 : Int32) &&& 31).toUInt32).toInt32) &&& (255 : Int32)).toUInt32.toUInt16.toUInt32.toInt32)), .val (.int ((((kc.toUInt32 >>> ((16 : Int32) &&& 31).toUInt32).toInt32) &&& (255 : Int32)).toUInt32.toUInt16.toUInt32.toInt32)), .val (.ref ky), .val (.int (q0.toInt8.toInt32)), .val (.int (q1.toInt8.toInt32)), .val (.int (q2.toInt8.toInt32)), .val (.ref b220), .unset, .unset, .unset, .unset]) rfl ?_
      refine XS.goto X220.here hx rfl (pc0 := 169) (pc' := 235) rfl (hb hby at_169) (by decide) (by decide) ?_
      refine XS.aload X220.here hx rfl (hb hby at_235) rfl rfl ?_
      refine XS.aload X220.here hx rfl (hb hby at_237) rfl rfl ?_
      exact kt
    obtain ⟨_, _, ⟨T229, L229, k229, n229⟩, -, X229, ⟨Lc229, hQ229, l229, y229, z229⟩, st229⟩ := Jvm.LawKit.callS X220 hx (y := (⟨"com/example/nestwarden/nestwarden/store/Journal$Change", "keep", "(Ljava/lang/String;[B)Lcom/example/nestwarden/nestwarden/store/Journal$Change;"⟩ : MethodName)) ho2 (mvT hZ2 (hw _ (List.mem_of_getElem? (i := 30) rfl))) (mvT hZ2 (hw _ (List.mem_of_getElem? (i := 31) rfl))) (mvT hZ2 (hw _ (List.mem_of_getElem? (i := 32) rfl))) (mvT hZ2 (hw _ (List.mem_of_getElem? (i := 33) rfl))) (by decide) (backOf (W := 0) (own_rm7n0 l Z a0 hw [] (ky) (b220) (k220) h220 n0 (Nat.le_trans Z0 K224.1) V225 AE220) hZ2 (hw _ (List.mem_of_getElem? (i := 33) rfl)) (hw _ (List.mem_of_getElem? (i := 32) rfl)) (by decide) (by decide)) (g := (mkF m 239 #[.val (.int kc), .val (.int lens), .val (.int q0), .val (.int q1), .val (.int q2), .val (.int (lens &&& (3 : Int32))), .val (.int (((lens.toUInt32 >>> ((2 : Int32) &&& 31).toUInt32).toInt32) &&& (3 : Int32))), .val (.int ((kc &&& (255 : Int32)).toUInt32.toUInt16.toUInt32.toInt32)), .val (.int ((((kc.toUInt32 >>> ((8 : Int32) &&& 31).toUInt32).toInt32) &&& (255 : Int32)).toUInt32.toUInt16.toUInt32.toInt32)), .val (.int ((((kc.toUInt32 >>> ((16 : Int32) &&& 31).toUInt32).toInt32) &&& (255 : Int32)).toUInt32.toUInt16.toUInt32.toInt32)), .val (.ref ky), .val (.int (q0.toInt8.toInt32)), .val (.int (q1.toInt8.toInt32)), .val (.int (q2.toInt8.toInt32)), .val (.ref b220), .unset, .unset, .unset, .unset] [(.ref b220), (.ref ky)])) rfl (by rw [hml]; rfl) (argsL := [(.ref ky), (.ref b220)]) (rest := []) (lenOf own_pd7 rfl) rfl (by show 2 * 0 + _ ≤ _; exact Nat.le_of_eq rfl) (hb hby at_239) (fun _ _ => ⟨rfl, e220, (by decide : 9 + 2 ≤ _), (by decide : 64 + 2 ≤ _)⟩)
    dsimp only [Pt.U, Pt.locs, Pt.cells, Pt.slots] at X229 l229 y229 z229 st229 hQ229
    subst l229 y229 z229
    obtain ⟨r226, tb226, rfl, Nq229, gt226, sz226, Kc226, Ec226, Fk226, Fr226, Va226⟩ := hQ229
    have N230 := Fr.app Nj2 Nq229
    have S231 : ∀ t, Steps p.tables e below (T229.setTop (mkF m 242 #[.val (.int kc), .val (.int lens), .val (.int q0), .val (.int q1), .val (.int q2), .val (.int (lens &&& (3 : Int32))), .val (.int (((lens.toUInt32 >>> ((2 : Int32) &&& 31).toUInt32).toInt32) &&& (3 : Int32))), .val (.int ((kc &&& (255 : Int32)).toUInt32.toUInt16.toUInt32.toInt32)), .val (.int ((((kc.toUInt32 >>> ((8 : Int32) &&& 31).toUInt32).toInt32) &&& (255 : Int32)).toUInt32.toUInt16.toUInt32.toInt32)), .val (.int ((((kc.toUInt32 >>> ((16 : Int32) &&& 31).toUInt32).toInt32) &&& (255 : Int32)).toUInt32.toUInt16.toUInt32.toInt32)), .val (.ref ky), .val (.int (q0.toInt8.toInt32)), .val (.int (q1.toInt8.toInt32)), .val (.int (q2.toInt8.toInt32)), .val (.ref b220), .unset, .unset, .unset, .unset] [(.ref r226)])) t → Steps p.tables e below (s₁.setTop (entryFrame m #[(.int kc), (.int lens), (.int q0), (.int q1), (.int q2)] maxLocals)) t := fun t kt => S228 t (st229 _ kt)
    have Sf232 := Safe.keep Kc226 all0 CR222.1 Sf_b220
    have CR233 := CR222.trans (CHr.keep Kc226 all0 CR222.1)
    have F234 := F223.keep Kc226
    have F235 := V225.keep Kc226 nin0
    have F236 := AE220.keep Kc226
    have K237 : Keep h0 T229.heap [] := K224.trans Kc226 all0
    have ne_ky_tb226 : ky ≠ tb226 := Nat.ne_of_lt (Nat.lt_of_lt_of_le F223.lt sz226)
    have ne_b220_tb226 : b220 ≠ tb226 := Nat.ne_of_lt (Nat.lt_of_lt_of_le V225.lt sz226)
    have S239 : ∀ t, Steps p.tables e below (T229.setTop (mkF m 246 #[.val (.int kc), .val (.int lens), .val (.int q0), .val (.int q1), .val (.int q2), .val (.int (lens &&& (3 : Int32))), .val (.int (((lens.toUInt32 >>> ((2 : Int32) &&& 31).toUInt32).toInt32) &&& (3 : Int32))), .val (.int ((kc &&& (255 : Int32)).toUInt32.toUInt16.toUInt32.toInt32)), .val (.int ((((kc.toUInt32 >>> ((8 : Int32) &&& 31).toUInt32).toInt32) &&& (255 : Int32)).toUInt32.toUInt16.toUInt32.toInt32)), .val (.int ((((kc.toUInt32 >>> ((16 : Int32) &&& 31).toUInt32).toInt32) &&& (255 : Int32)).toUInt32.toUInt16.toUInt32.toInt32)), .val (.ref ky), .val (.int (q0.toInt8.toInt32)), .val (.int (q1.toInt8.toInt32)), .val (.int (q2.toInt8.toInt32)), .val (.ref b220), .val (.ref r226), .unset, .unset, .unset] [(.ref r226)])) t → Steps p.tables e below (s₁.setTop (entryFrame m #[(.int kc), (.int lens), (.int q0), (.int q1), (.int q2)] maxLocals)) t := fun t kt => by
      refine S231 t ?_
      show Steps p.tables e below (T229.setTop (mkF m 242 #[.val (.int kc), .val (.int lens), .val (.int q0), .val (.int q1), .val (.int q2), .val (.int (lens &&& (3 : Int32))), .val (.int (((lens.toUInt32 >>> ((2 : Int32) &&& 31).toUInt32).toInt32) &&& (3 : Int32))), .val (.int ((kc &&& (255 : Int32)).toUInt32.toUInt16.toUInt32.toInt32)), .val (.int ((((kc.toUInt32 >>> ((8 : Int32) &&& 31).toUInt32).toInt32) &&& (255 : Int32)).toUInt32.toUInt16.toUInt32.toInt32)), .val (.int ((((kc.toUInt32 >>> ((16 : Int32) &&& 31).toUInt32).toInt32) &&& (255 : Int32)).toUInt32.toUInt16.toUInt32.toInt32)), .val (.ref ky), .val (.int (q0.toInt8.toInt32)), .val (.int (q1.toInt8.toInt32)), .val (.int (q2.toInt8.toInt32)), .val (.ref b220), .unset, .unset, .unset, .unset] [(.ref r226)])) t
      refine XS.astore X229.here hx rfl (hb hby at_242) rfl rfl (l' := #[.val (.int kc), .val (.int lens), .val (.int q0), .val (.int q1), .val (.int q2), .val (.int (lens &&& (3 : Int32))), .val (.int (((lens.toUInt32 >>> ((2 : Int32) &&& 31).toUInt32).toInt32) &&& (3 : Int32))), .val (.int ((kc &&& (255 : Int32)).toUInt32.toUInt16.toUInt32.toInt32)), .val (.int ((((kc.toUInt32 >>> ((8 : Int32) &&& 31).toUInt32).toInt32) &&& (255 : Int32)).toUInt32.toUInt16.toUInt32.toInt32)), .val (.int ((((kc.toUInt32 >>> ((16 : Int32) &&& 31).toUInt32).toInt32) &&& (255 : Int32)).toUInt32.toUInt16.toUInt32.toInt32)), .val (.ref ky), .val (.int (q0.toInt8.toInt32)), .val (.int (q1.toInt8.toInt32)), .val (.int (q2.toInt8.toInt32)), .val (.ref b220), .val (.ref r226), .unset, .unset, .unset]) rfl ?_
      refine XS.aload X229.here hx rfl (hb hby at_244) rfl rfl ?_
      exact kt
    obtain ⟨cq240, kq240, q240a, q240b, q240c⟩ := isOf hZ2 rfl Ec226
    obtain ⟨_, _, ⟨T240, L240, k240, n240⟩, -, X240, ⟨Lc240, hQ240, l240, y240, z240⟩, st240⟩ := X229.virtualBack hx (y := (⟨"com/example/nestwarden/nestwarden/store/Journal$Change", "key", "()Ljava/lang/String;"⟩ : MethodName)) (z := (⟨"com/example/nestwarden/nestwarden/store/Journal$Change", "key", "()Ljava/lang/String;"⟩ : MethodName)) ho2 (mvT hZ2 (hw _ (List.mem_of_getElem? (i := 58) rfl))) (mvT hZ2 (hw _ (List.mem_of_getElem? (i := 59) rfl))) (notFace_of_selects (args := #[]) (mvT hZ2 (hw _ (List.mem_of_getElem? (i := 61) rfl)))) (mvT hZ2 (hw _ (List.mem_of_getElem? (i := 61) rfl))) (mvT hZ2 (hw _ (List.mem_of_getElem? (i := 60) rfl))) (by decide) (backOf (W := 0) (own_rm10 l Z a0 hw [] (r226) (ky) T229.heap n0 (Nat.le_trans Z0 K237.1) Fk226) hZ2 (hw _ (List.mem_of_getElem? (i := 62) rfl)) (hw _ (List.mem_of_getElem? (i := 32) rfl)) (by decide) (by decide)) q240a q240c (g := (mkF m 246 #[.val (.int kc), .val (.int lens), .val (.int q0), .val (.int q1), .val (.int q2), .val (.int (lens &&& (3 : Int32))), .val (.int (((lens.toUInt32 >>> ((2 : Int32) &&& 31).toUInt32).toInt32) &&& (3 : Int32))), .val (.int ((kc &&& (255 : Int32)).toUInt32.toUInt16.toUInt32.toInt32)), .val (.int ((((kc.toUInt32 >>> ((8 : Int32) &&& 31).toUInt32).toInt32) &&& (255 : Int32)).toUInt32.toUInt16.toUInt32.toInt32)), .val (.int ((((kc.toUInt32 >>> ((16 : Int32) &&& 31).toUInt32).toInt32) &&& (255 : Int32)).toUInt32.toUInt16.toUInt32.toInt32)), .val (.ref ky), .val (.int (q0.toInt8.toInt32)), .val (.int (q1.toInt8.toInt32)), .val (.int (q2.toInt8.toInt32)), .val (.ref b220), .val (.ref r226), .unset, .unset, .unset] [(.ref r226)])) rfl (by rw [hml]; rfl) (Steps.refl _) (argsL := []) (rest := []) (lenOf own_pd8 rfl) rfl (by show 2 * 0 + _ ≤ _; exact Nat.le_of_eq rfl) (hb hby at_246) (fun _ _ => ⟨rfl, rfl, (by decide : 11 + 0 ≤ _), (by decide : 66 + 0 ≤ _)⟩)
    dsimp only [Pt.U, Pt.locs, Pt.cells, Pt.slots] at X240 l240 y240 z240 st240 hQ240
    subst l240 y240 z240
    obtain ⟨rfl, rfl, eq238⟩ := hQ240
    try rw [List.append_nil] at X240
    have S241 : ∀ t, Steps p.tables e below (T240.setTop (mkF m 249 #[.val (.int kc), .val (.int lens), .val (.int q0), .val (.int q1), .val (.int q2), .val (.int (lens &&& (3 : Int32))), .val (.int (((lens.toUInt32 >>> ((2 : Int32) &&& 31).toUInt32).toInt32) &&& (3 : Int32))), .val (.int ((kc &&& (255 : Int32)).toUInt32.toUInt16.toUInt32.toInt32)), .val (.int ((((kc.toUInt32 >>> ((8 : Int32) &&& 31).toUInt32).toInt32) &&& (255 : Int32)).toUInt32.toUInt16.toUInt32.toInt32)), .val (.int ((((kc.toUInt32 >>> ((16 : Int32) &&& 31).toUInt32).toInt32) &&& (255 : Int32)).toUInt32.toUInt16.toUInt32.toInt32)), .val (.ref ky), .val (.int (q0.toInt8.toInt32)), .val (.int (q1.toInt8.toInt32)), .val (.int (q2.toInt8.toInt32)), .val (.ref b220), .val (.ref r226), .unset, .unset, .unset] [(.ref ky)])) t → Steps p.tables e below (s₁.setTop (entryFrame m #[(.int kc), (.int lens), (.int q0), (.int q1), (.int q2)] maxLocals)) t := fun t kt => S239 t (st240.trans kt)
    have S243 : ∀ t, Steps p.tables e below (T240.setTop (mkF m 253 #[.val (.int kc), .val (.int lens), .val (.int q0), .val (.int q1), .val (.int q2), .val (.int (lens &&& (3 : Int32))), .val (.int (((lens.toUInt32 >>> ((2 : Int32) &&& 31).toUInt32).toInt32) &&& (3 : Int32))), .val (.int ((kc &&& (255 : Int32)).toUInt32.toUInt16.toUInt32.toInt32)), .val (.int ((((kc.toUInt32 >>> ((8 : Int32) &&& 31).toUInt32).toInt32) &&& (255 : Int32)).toUInt32.toUInt16.toUInt32.toInt32)), .val (.int ((((kc.toUInt32 >>> ((16 : Int32) &&& 31).toUInt32).toInt32) &&& (255 : Int32)).toUInt32.toUInt16.toUInt32.toInt32)), .val (.ref ky), .val (.int (q0.toInt8.toInt32)), .val (.int (q1.toInt8.toInt32)), .val (.int (q2.toInt8.toInt32)), .val (.ref b220), .val (.ref r226), .val (.ref ky), .unset, .unset] [(.ref r226)])) t → Steps p.tables e below (s₁.setTop (entryFrame m #[(.int kc), (.int lens), (.int q0), (.int q1), (.int q2)] maxLocals)) t := fun t kt => by
      refine S241 t ?_
      show Steps p.tables e below (T240.setTop (mkF m 249 #[.val (.int kc), .val (.int lens), .val (.int q0), .val (.int q1), .val (.int q2), .val (.int (lens &&& (3 : Int32))), .val (.int (((lens.toUInt32 >>> ((2 : Int32) &&& 31).toUInt32).toInt32) &&& (3 : Int32))), .val (.int ((kc &&& (255 : Int32)).toUInt32.toUInt16.toUInt32.toInt32)), .val (.int ((((kc.toUInt32 >>> ((8 : Int32) &&& 31).toUInt32).toInt32) &&& (255 : Int32)).toUInt32.toUInt16.toUInt32.toInt32)), .val (.int ((((kc.toUInt32 >>> ((16 : Int32) &&& 31).toUInt32).toInt32) &&& (255 : Int32)).toUInt32.toUInt16.toUInt32.toInt32)), .val (.ref ky), .val (.int (q0.toInt8.toInt32)), .val (.int (q1.toInt8.toInt32)), .val (.int (q2.toInt8.toInt32)), .val (.ref b220), .val (.ref r226), .unset, .unset, .unset] [(.ref ky)])) t
      refine XS.astore X240.here hx rfl (hb hby at_249) rfl rfl (l' := #[.val (.int kc), .val (.int lens), .val (.int q0), .val (.int q1), .val (.int q2), .val (.int (lens &&& (3 : Int32))), .val (.int (((lens.toUInt32 >>> ((2 : Int32) &&& 31).toUInt32).toInt32) &&& (3 : Int32))), .val (.int ((kc &&& (255 : Int32)).toUInt32.toUInt16.toUInt32.toInt32)), .val (.int ((((kc.toUInt32 >>> ((8 : Int32) &&& 31).toUInt32).toInt32) &&& (255 : Int32)).toUInt32.toUInt16.toUInt32.toInt32)), .val (.int ((((kc.toUInt32 >>> ((16 : Int32) &&& 31).toUInt32).toInt32) &&& (255 : Int32)).toUInt32.toUInt16.toUInt32.toInt32)), .val (.ref ky), .val (.int (q0.toInt8.toInt32)), .val (.int (q1.toInt8.toInt32)), .val (.int (q2.toInt8.toInt32)), .val (.ref b220), .val (.ref r226), .val (.ref ky), .unset, .unset]) rfl ?_
      refine XS.aload X240.here hx rfl (hb hby at_251) rfl rfl ?_
      exact kt
    obtain ⟨cq244, kq244, q244a, q244b, q244c⟩ := isOf hZ2 (eq238.trans rfl) Ec226
    obtain ⟨_, _, ⟨T244, L244, k244, n244⟩, -, X244, ⟨Lc244, hQ244, l244, y244, z244⟩, st244⟩ := X240.virtualBack hx (y := (⟨"com/example/nestwarden/nestwarden/store/Journal$Change", "record", "()[B"⟩ : MethodName)) (z := (⟨"com/example/nestwarden/nestwarden/store/Journal$Change", "record", "()[B"⟩ : MethodName)) ho2 (mvT hZ2 (hw _ (List.mem_of_getElem? (i := 63) rfl))) (mvT hZ2 (hw _ (List.mem_of_getElem? (i := 64) rfl))) (notFace_of_selects (args := #[]) (mvT hZ2 (hw _ (List.mem_of_getElem? (i := 66) rfl)))) (mvT hZ2 (hw _ (List.mem_of_getElem? (i := 66) rfl))) (mvT hZ2 (hw _ (List.mem_of_getElem? (i := 65) rfl))) (by decide) (backOf (W := 0) (own_rm11 l Z a0 hw [] (r226) (tb226) T229.heap n0 (Nat.le_trans Z0 K237.1) Fr226) hZ2 (hw _ (List.mem_of_getElem? (i := 67) rfl)) (hw _ (List.mem_of_getElem? (i := 32) rfl)) (by decide) (by decide)) q244a q244c (g := (mkF m 253 #[.val (.int kc), .val (.int lens), .val (.int q0), .val (.int q1), .val (.int q2), .val (.int (lens &&& (3 : Int32))), .val (.int (((lens.toUInt32 >>> ((2 : Int32) &&& 31).toUInt32).toInt32) &&& (3 : Int32))), .val (.int ((kc &&& (255 : Int32)).toUInt32.toUInt16.toUInt32.toInt32)), .val (.int ((((kc.toUInt32 >>> ((8 : Int32) &&& 31).toUInt32).toInt32) &&& (255 : Int32)).toUInt32.toUInt16.toUInt32.toInt32)), .val (.int ((((kc.toUInt32 >>> ((16 : Int32) &&& 31).toUInt32).toInt32) &&& (255 : Int32)).toUInt32.toUInt16.toUInt32.toInt32)), .val (.ref ky), .val (.int (q0.toInt8.toInt32)), .val (.int (q1.toInt8.toInt32)), .val (.int (q2.toInt8.toInt32)), .val (.ref b220), .val (.ref r226), .val (.ref ky), .unset, .unset] [(.ref r226)])) rfl (by rw [hml]; rfl) (Steps.refl _) (argsL := []) (rest := []) (lenOf own_pd9 rfl) rfl (by show 2 * 0 + _ ≤ _; exact Nat.le_of_eq rfl) (hb hby at_253) (fun _ _ => ⟨rfl, (eq238.trans rfl), (by decide : 11 + 0 ≤ _), (by decide : 66 + 0 ≤ _)⟩)
    dsimp only [Pt.U, Pt.locs, Pt.cells, Pt.slots] at X244 l244 y244 z244 st244 hQ244
    subst l244 y244 z244
    obtain ⟨rfl, rfl, eq242⟩ := hQ244
    try rw [List.append_nil] at X244
    have S245 : ∀ t, Steps p.tables e below (T244.setTop (mkF m 256 #[.val (.int kc), .val (.int lens), .val (.int q0), .val (.int q1), .val (.int q2), .val (.int (lens &&& (3 : Int32))), .val (.int (((lens.toUInt32 >>> ((2 : Int32) &&& 31).toUInt32).toInt32) &&& (3 : Int32))), .val (.int ((kc &&& (255 : Int32)).toUInt32.toUInt16.toUInt32.toInt32)), .val (.int ((((kc.toUInt32 >>> ((8 : Int32) &&& 31).toUInt32).toInt32) &&& (255 : Int32)).toUInt32.toUInt16.toUInt32.toInt32)), .val (.int ((((kc.toUInt32 >>> ((16 : Int32) &&& 31).toUInt32).toInt32) &&& (255 : Int32)).toUInt32.toUInt16.toUInt32.toInt32)), .val (.ref ky), .val (.int (q0.toInt8.toInt32)), .val (.int (q1.toInt8.toInt32)), .val (.int (q2.toInt8.toInt32)), .val (.ref b220), .val (.ref r226), .val (.ref ky), .unset, .unset] [(.ref tb226)])) t → Steps p.tables e below (s₁.setTop (entryFrame m #[(.int kc), (.int lens), (.int q0), (.int q1), (.int q2)] maxLocals)) t := fun t kt => S243 t (st244.trans kt)
    have S246 : ∀ t, Steps p.tables e below (T244.setTop (mkF m 260 #[.val (.int kc), .val (.int lens), .val (.int q0), .val (.int q1), .val (.int q2), .val (.int (lens &&& (3 : Int32))), .val (.int (((lens.toUInt32 >>> ((2 : Int32) &&& 31).toUInt32).toInt32) &&& (3 : Int32))), .val (.int ((kc &&& (255 : Int32)).toUInt32.toUInt16.toUInt32.toInt32)), .val (.int ((((kc.toUInt32 >>> ((8 : Int32) &&& 31).toUInt32).toInt32) &&& (255 : Int32)).toUInt32.toUInt16.toUInt32.toInt32)), .val (.int ((((kc.toUInt32 >>> ((16 : Int32) &&& 31).toUInt32).toInt32) &&& (255 : Int32)).toUInt32.toUInt16.toUInt32.toInt32)), .val (.ref ky), .val (.int (q0.toInt8.toInt32)), .val (.int (q1.toInt8.toInt32)), .val (.int (q2.toInt8.toInt32)), .val (.ref b220), .val (.ref r226), .val (.ref ky), .val (.ref tb226), .unset] [(.ref ky)])) t → Steps p.tables e below (s₁.setTop (entryFrame m #[(.int kc), (.int lens), (.int q0), (.int q1), (.int q2)] maxLocals)) t := fun t kt => by
      refine S245 t ?_
      show Steps p.tables e below (T244.setTop (mkF m 256 #[.val (.int kc), .val (.int lens), .val (.int q0), .val (.int q1), .val (.int q2), .val (.int (lens &&& (3 : Int32))), .val (.int (((lens.toUInt32 >>> ((2 : Int32) &&& 31).toUInt32).toInt32) &&& (3 : Int32))), .val (.int ((kc &&& (255 : Int32)).toUInt32.toUInt16.toUInt32.toInt32)), .val (.int ((((kc.toUInt32 >>> ((8 : Int32) &&& 31).toUInt32).toInt32) &&& (255 : Int32)).toUInt32.toUInt16.toUInt32.toInt32)), .val (.int ((((kc.toUInt32 >>> ((16 : Int32) &&& 31).toUInt32).toInt32) &&& (255 : Int32)).toUInt32.toUInt16.toUInt32.toInt32)), .val (.ref ky), .val (.int (q0.toInt8.toInt32)), .val (.int (q1.toInt8.toInt32)), .val (.int (q2.toInt8.toInt32)), .val (.ref b220), .val (.ref r226), .val (.ref ky), .unset, .unset] [(.ref tb226)])) t
      refine XS.astore X244.here hx rfl (hb hby at_256) rfl rfl (l' := #[.val (.int kc), .val (.int lens), .val (.int q0), .val (.int q1), .val (.int q2), .val (.int (lens &&& (3 : Int32))), .val (.int (((lens.toUInt32 >>> ((2 : Int32) &&& 31).toUInt32).toInt32) &&& (3 : Int32))), .val (.int ((kc &&& (255 : Int32)).toUInt32.toUInt16.toUInt32.toInt32)), .val (.int ((((kc.toUInt32 >>> ((8 : Int32) &&& 31).toUInt32).toInt32) &&& (255 : Int32)).toUInt32.toUInt16.toUInt32.toInt32)), .val (.int ((((kc.toUInt32 >>> ((16 : Int32) &&& 31).toUInt32).toInt32) &&& (255 : Int32)).toUInt32.toUInt16.toUInt32.toInt32)), .val (.ref ky), .val (.int (q0.toInt8.toInt32)), .val (.int (q1.toInt8.toInt32)), .val (.int (q2.toInt8.toInt32)), .val (.ref b220), .val (.ref r226), .val (.ref ky), .val (.ref tb226), .unset]) rfl ?_
      refine XS.aload X244.here hx rfl (hb hby at_258) rfl rfl ?_
      exact kt
    have S248 : ∀ t, Steps p.tables e below (T244.setTop (mkF m 267 #[.val (.int kc), .val (.int lens), .val (.int q0), .val (.int q1), .val (.int q2), .val (.int (lens &&& (3 : Int32))), .val (.int (((lens.toUInt32 >>> ((2 : Int32) &&& 31).toUInt32).toInt32) &&& (3 : Int32))), .val (.int ((kc &&& (255 : Int32)).toUInt32.toUInt16.toUInt32.toInt32)), .val (.int ((((kc.toUInt32 >>> ((8 : Int32) &&& 31).toUInt32).toInt32) &&& (255 : Int32)).toUInt32.toUInt16.toUInt32.toInt32)), .val (.int ((((kc.toUInt32 >>> ((16 : Int32) &&& 31).toUInt32).toInt32) &&& (255 : Int32)).toUInt32.toUInt16.toUInt32.toInt32)), .val (.ref ky), .val (.int (q0.toInt8.toInt32)), .val (.int (q1.toInt8.toInt32)), .val (.int (q2.toInt8.toInt32)), .val (.ref b220), .val (.ref r226), .val (.ref ky), .val (.ref tb226), .unset] [(.ref ky), (.ref ky)])) t → Steps p.tables e below (s₁.setTop (entryFrame m #[(.int kc), (.int lens), (.int q0), (.int q1), (.int q2)] maxLocals)) t := fun t kt => by
      refine S246 t ?_
      show Steps p.tables e below (T244.setTop (mkF m 260 #[.val (.int kc), .val (.int lens), .val (.int q0), .val (.int q1), .val (.int q2), .val (.int (lens &&& (3 : Int32))), .val (.int (((lens.toUInt32 >>> ((2 : Int32) &&& 31).toUInt32).toInt32) &&& (3 : Int32))), .val (.int ((kc &&& (255 : Int32)).toUInt32.toUInt16.toUInt32.toInt32)), .val (.int ((((kc.toUInt32 >>> ((8 : Int32) &&& 31).toUInt32).toInt32) &&& (255 : Int32)).toUInt32.toUInt16.toUInt32.toInt32)), .val (.int ((((kc.toUInt32 >>> ((16 : Int32) &&& 31).toUInt32).toInt32) &&& (255 : Int32)).toUInt32.toUInt16.toUInt32.toInt32)), .val (.ref ky), .val (.int (q0.toInt8.toInt32)), .val (.int (q1.toInt8.toInt32)), .val (.int (q2.toInt8.toInt32)), .val (.ref b220), .val (.ref r226), .val (.ref ky), .val (.ref tb226), .unset] [(.ref ky)])) t
      refine XS.ifnullNo X244.here hx rfl (hb hby at_260) rfl ?_
      refine XS.aload X244.here hx rfl (hb hby at_263) rfl rfl ?_
      refine XS.aload X244.here hx rfl (hb hby at_265) rfl rfl ?_
      exact kt
    obtain ⟨cq249, kq249, q249a, q249b, q249c⟩ := isOf hZ2 eq242 F234
    obtain ⟨_, _, ⟨T249, L249, k249, n249⟩, -, X249, ⟨Lc249, hQ249, l249, y249, z249⟩, st249⟩ := X244.virtualBack hx (y := (⟨"java/lang/String", "equals", "(Ljava/lang/Object;)Z"⟩ : MethodName)) (z := (⟨"java/lang/String", "equals", "(Ljava/lang/Object;)Z"⟩ : MethodName)) ho2 (mvT hZ2 (hw _ (List.mem_of_getElem? (i := 68) rfl))) (mvT hZ2 (hw _ (List.mem_of_getElem? (i := 69) rfl))) (notFace_of_selects (args := #[]) (mvT hZ2 (hw _ (List.mem_of_getElem? (i := 71) rfl)))) (mvT hZ2 (hw _ (List.mem_of_getElem? (i := 71) rfl))) (mvT hZ2 (hw _ (List.mem_of_getElem? (i := 70) rfl))) (by decide) (backOf (W := 0) (own_rm12 l Z a0 hw [] (ky) (ky) T229.heap n0 (Nat.le_trans Z0 K237.1) rfl) hZ2 (hw _ (List.mem_of_getElem? (i := 72) rfl)) (hw _ (List.mem_of_getElem? (i := 2) rfl)) (by decide) (by decide)) q249a q249c (g := (mkF m 267 #[.val (.int kc), .val (.int lens), .val (.int q0), .val (.int q1), .val (.int q2), .val (.int (lens &&& (3 : Int32))), .val (.int (((lens.toUInt32 >>> ((2 : Int32) &&& 31).toUInt32).toInt32) &&& (3 : Int32))), .val (.int ((kc &&& (255 : Int32)).toUInt32.toUInt16.toUInt32.toInt32)), .val (.int ((((kc.toUInt32 >>> ((8 : Int32) &&& 31).toUInt32).toInt32) &&& (255 : Int32)).toUInt32.toUInt16.toUInt32.toInt32)), .val (.int ((((kc.toUInt32 >>> ((16 : Int32) &&& 31).toUInt32).toInt32) &&& (255 : Int32)).toUInt32.toUInt16.toUInt32.toInt32)), .val (.ref ky), .val (.int (q0.toInt8.toInt32)), .val (.int (q1.toInt8.toInt32)), .val (.int (q2.toInt8.toInt32)), .val (.ref b220), .val (.ref r226), .val (.ref ky), .val (.ref tb226), .unset] [(.ref ky), (.ref ky)])) rfl (by rw [hml]; rfl) (Steps.refl _) (argsL := [(.ref ky)]) (rest := []) (lenOf own_pd10 rfl) rfl (by show 2 * 0 + _ ≤ _; exact Nat.le_of_eq rfl) (hb hby at_267) (fun _ _ => ⟨rfl, eq242, (by decide : 11 + 0 ≤ _), (by decide : 66 + 0 ≤ _)⟩)
    dsimp only [Pt.U, Pt.locs, Pt.cells, Pt.slots] at X249 l249 y249 z249 st249 hQ249
    subst l249 y249 z249
    obtain ⟨rfl, rfl, eq247⟩ := hQ249
    try rw [List.append_nil] at X249
    have S250 : ∀ t, Steps p.tables e below (T249.setTop (mkF m 270 #[.val (.int kc), .val (.int lens), .val (.int q0), .val (.int q1), .val (.int q2), .val (.int (lens &&& (3 : Int32))), .val (.int (((lens.toUInt32 >>> ((2 : Int32) &&& 31).toUInt32).toInt32) &&& (3 : Int32))), .val (.int ((kc &&& (255 : Int32)).toUInt32.toUInt16.toUInt32.toInt32)), .val (.int ((((kc.toUInt32 >>> ((8 : Int32) &&& 31).toUInt32).toInt32) &&& (255 : Int32)).toUInt32.toUInt16.toUInt32.toInt32)), .val (.int ((((kc.toUInt32 >>> ((16 : Int32) &&& 31).toUInt32).toInt32) &&& (255 : Int32)).toUInt32.toUInt16.toUInt32.toInt32)), .val (.ref ky), .val (.int (q0.toInt8.toInt32)), .val (.int (q1.toInt8.toInt32)), .val (.int (q2.toInt8.toInt32)), .val (.ref b220), .val (.ref r226), .val (.ref ky), .val (.ref tb226), .unset] [(.int (1 : Int32))])) t → Steps p.tables e below (s₁.setTop (entryFrame m #[(.int kc), (.int lens), (.int q0), (.int q1), (.int q2)] maxLocals)) t := fun t kt => S248 t (st249.trans kt)
    have hc270_251 : ¬ ((1 : Int32) = (0 : Int32)) := by decide
    have S252 : ∀ t, Steps p.tables e below (T249.setTop (mkF m 277 #[.val (.int kc), .val (.int lens), .val (.int q0), .val (.int q1), .val (.int q2), .val (.int (lens &&& (3 : Int32))), .val (.int (((lens.toUInt32 >>> ((2 : Int32) &&& 31).toUInt32).toInt32) &&& (3 : Int32))), .val (.int ((kc &&& (255 : Int32)).toUInt32.toUInt16.toUInt32.toInt32)), .val (.int ((((kc.toUInt32 >>> ((8 : Int32) &&& 31).toUInt32).toInt32) &&& (255 : Int32)).toUInt32.toUInt16.toUInt32.toInt32)), .val (.int ((((kc.toUInt32 >>> ((16 : Int32) &&& 31).toUInt32).toInt32) &&& (255 : Int32)).toUInt32.toUInt16.toUInt32.toInt32)), .val (.ref ky), .val (.int (q0.toInt8.toInt32)), .val (.int (q1.toInt8.toInt32)), .val (.int (q2.toInt8.toInt32)), .val (.ref b220), .val (.ref r226), .val (.ref ky), .val (.ref tb226), .unset] [(.ref tb226)])) t → Steps p.tables e below (s₁.setTop (entryFrame m #[(.int kc), (.int lens), (.int q0), (.int q1), (.int q2)] maxLocals)) t := fun t kt => by
      refine S250 t ?_
      show Steps p.tables e below (T249.setTop (mkF m 270 #[.val (.int kc), .val (.int lens), .val (.int q0), .val (.int q1), .val (.int q2), .val (.int (lens &&& (3 : Int32))), .val (.int (((lens.toUInt32 >>> ((2 : Int32) &&& 31).toUInt32).toInt32) &&& (3 : Int32))), .val (.int ((kc &&& (255 : Int32)).toUInt32.toUInt16.toUInt32.toInt32)), .val (.int ((((kc.toUInt32 >>> ((8 : Int32) &&& 31).toUInt32).toInt32) &&& (255 : Int32)).toUInt32.toUInt16.toUInt32.toInt32)), .val (.int ((((kc.toUInt32 >>> ((16 : Int32) &&& 31).toUInt32).toInt32) &&& (255 : Int32)).toUInt32.toUInt16.toUInt32.toInt32)), .val (.ref ky), .val (.int (q0.toInt8.toInt32)), .val (.int (q1.toInt8.toInt32)), .val (.int (q2.toInt8.toInt32)), .val (.ref b220), .val (.ref r226), .val (.ref ky), .val (.ref tb226), .unset] [(.int (1 : Int32))])) t
      refine XS.ifYes X249.here hx rfl (pc0 := 270) (pc' := 275) rfl (hb hby at_270) rfl ((if0 _ _).trans (feq hc270_251).2) (by decide) (by decide) ?_
      refine XS.aload X249.here hx rfl (hb hby at_275) rfl rfl ?_
      exact kt
    have S253 : ∀ t, Steps p.tables e below (T249.setTop (mkF m 284 #[.val (.int kc), .val (.int lens), .val (.int q0), .val (.int q1), .val (.int q2), .val (.int (lens &&& (3 : Int32))), .val (.int (((lens.toUInt32 >>> ((2 : Int32) &&& 31).toUInt32).toInt32) &&& (3 : Int32))), .val (.int ((kc &&& (255 : Int32)).toUInt32.toUInt16.toUInt32.toInt32)), .val (.int ((((kc.toUInt32 >>> ((8 : Int32) &&& 31).toUInt32).toInt32) &&& (255 : Int32)).toUInt32.toUInt16.toUInt32.toInt32)), .val (.int ((((kc.toUInt32 >>> ((16 : Int32) &&& 31).toUInt32).toInt32) &&& (255 : Int32)).toUInt32.toUInt16.toUInt32.toInt32)), .val (.ref ky), .val (.int (q0.toInt8.toInt32)), .val (.int (q1.toInt8.toInt32)), .val (.int (q2.toInt8.toInt32)), .val (.ref b220), .val (.ref r226), .val (.ref ky), .val (.ref tb226), .unset] [(.ref b220), (.ref tb226)])) t → Steps p.tables e below (s₁.setTop (entryFrame m #[(.int kc), (.int lens), (.int q0), (.int q1), (.int q2)] maxLocals)) t := fun t kt => by
      refine S252 t ?_
      show Steps p.tables e below (T249.setTop (mkF m 277 #[.val (.int kc), .val (.int lens), .val (.int q0), .val (.int q1), .val (.int q2), .val (.int (lens &&& (3 : Int32))), .val (.int (((lens.toUInt32 >>> ((2 : Int32) &&& 31).toUInt32).toInt32) &&& (3 : Int32))), .val (.int ((kc &&& (255 : Int32)).toUInt32.toUInt16.toUInt32.toInt32)), .val (.int ((((kc.toUInt32 >>> ((8 : Int32) &&& 31).toUInt32).toInt32) &&& (255 : Int32)).toUInt32.toUInt16.toUInt32.toInt32)), .val (.int ((((kc.toUInt32 >>> ((16 : Int32) &&& 31).toUInt32).toInt32) &&& (255 : Int32)).toUInt32.toUInt16.toUInt32.toInt32)), .val (.ref ky), .val (.int (q0.toInt8.toInt32)), .val (.int (q1.toInt8.toInt32)), .val (.int (q2.toInt8.toInt32)), .val (.ref b220), .val (.ref r226), .val (.ref ky), .val (.ref tb226), .unset] [(.ref tb226)])) t
      refine XS.ifnullNo X249.here hx rfl (hb hby at_277) rfl ?_
      refine XS.aload X249.here hx rfl (hb hby at_280) rfl rfl ?_
      refine XS.aload X249.here hx rfl (hb hby at_282) rfl rfl ?_
      exact kt
    have hc284_254 : ¬ (tb226 = b220) := (Ne.symm ne_b220_tb226)
    have S255 : ∀ t, Steps p.tables e below (T249.setTop (mkF m 289 #[.val (.int kc), .val (.int lens), .val (.int q0), .val (.int q1), .val (.int q2), .val (.int (lens &&& (3 : Int32))), .val (.int (((lens.toUInt32 >>> ((2 : Int32) &&& 31).toUInt32).toInt32) &&& (3 : Int32))), .val (.int ((kc &&& (255 : Int32)).toUInt32.toUInt16.toUInt32.toInt32)), .val (.int ((((kc.toUInt32 >>> ((8 : Int32) &&& 31).toUInt32).toInt32) &&& (255 : Int32)).toUInt32.toUInt16.toUInt32.toInt32)), .val (.int ((((kc.toUInt32 >>> ((16 : Int32) &&& 31).toUInt32).toInt32) &&& (255 : Int32)).toUInt32.toUInt16.toUInt32.toInt32)), .val (.ref ky), .val (.int (q0.toInt8.toInt32)), .val (.int (q1.toInt8.toInt32)), .val (.int (q2.toInt8.toInt32)), .val (.ref b220), .val (.ref r226), .val (.ref ky), .val (.ref tb226), .unset] [(.ref tb226)])) t → Steps p.tables e below (s₁.setTop (entryFrame m #[(.int kc), (.int lens), (.int q0), (.int q1), (.int q2)] maxLocals)) t := fun t kt => by
      refine S253 t ?_
      show Steps p.tables e below (T249.setTop (mkF m 284 #[.val (.int kc), .val (.int lens), .val (.int q0), .val (.int q1), .val (.int q2), .val (.int (lens &&& (3 : Int32))), .val (.int (((lens.toUInt32 >>> ((2 : Int32) &&& 31).toUInt32).toInt32) &&& (3 : Int32))), .val (.int ((kc &&& (255 : Int32)).toUInt32.toUInt16.toUInt32.toInt32)), .val (.int ((((kc.toUInt32 >>> ((8 : Int32) &&& 31).toUInt32).toInt32) &&& (255 : Int32)).toUInt32.toUInt16.toUInt32.toInt32)), .val (.int ((((kc.toUInt32 >>> ((16 : Int32) &&& 31).toUInt32).toInt32) &&& (255 : Int32)).toUInt32.toUInt16.toUInt32.toInt32)), .val (.ref ky), .val (.int (q0.toInt8.toInt32)), .val (.int (q1.toInt8.toInt32)), .val (.int (q2.toInt8.toInt32)), .val (.ref b220), .val (.ref r226), .val (.ref ky), .val (.ref tb226), .unset] [(.ref b220), (.ref tb226)])) t
      refine Jvm.RoadKit.acmp (g := (mkF m 284 #[.val (.int kc), .val (.int lens), .val (.int q0), .val (.int q1), .val (.int q2), .val (.int (lens &&& (3 : Int32))), .val (.int (((lens.toUInt32 >>> ((2 : Int32) &&& 31).toUInt32).toInt32) &&& (3 : Int32))), .val (.int ((kc &&& (255 : Int32)).toUInt32.toUInt16.toUInt32.toInt32)), .val (.int ((((kc.toUInt32 >>> ((8 : Int32) &&& 31).toUInt32).toInt32) &&& (255 : Int32)).toUInt32.toUInt16.toUInt32.toInt32)), .val (.int ((((kc.toUInt32 >>> ((16 : Int32) &&& 31).toUInt32).toInt32) &&& (255 : Int32)).toUInt32.toUInt16.toUInt32.toInt32)), .val (.ref ky), .val (.int (q0.toInt8.toInt32)), .val (.int (q1.toInt8.toInt32)), .val (.int (q2.toInt8.toInt32)), .val (.ref b220), .val (.ref r226), .val (.ref ky), .val (.ref tb226), .unset] [(.ref b220), (.ref tb226)])) X249 hx rfl rfl rfl (pc0 := 284) (pc' := 287) (same := false) rfl (hb hby at_284) rfl (decide_eq_false fun q => hc284_254 (Value.ref.inj q)) (by decide) (by decide) ?_
      show Steps p.tables e below (T249.setTop (mkF m 287 #[.val (.int kc), .val (.int lens), .val (.int q0), .val (.int q1), .val (.int q2), .val (.int (lens &&& (3 : Int32))), .val (.int (((lens.toUInt32 >>> ((2 : Int32) &&& 31).toUInt32).toInt32) &&& (3 : Int32))), .val (.int ((kc &&& (255 : Int32)).toUInt32.toUInt16.toUInt32.toInt32)), .val (.int ((((kc.toUInt32 >>> ((8 : Int32) &&& 31).toUInt32).toInt32) &&& (255 : Int32)).toUInt32.toUInt16.toUInt32.toInt32)), .val (.int ((((kc.toUInt32 >>> ((16 : Int32) &&& 31).toUInt32).toInt32) &&& (255 : Int32)).toUInt32.toUInt16.toUInt32.toInt32)), .val (.ref ky), .val (.int (q0.toInt8.toInt32)), .val (.int (q1.toInt8.toInt32)), .val (.int (q2.toInt8.toInt32)), .val (.ref b220), .val (.ref r226), .val (.ref ky), .val (.ref tb226), .unset] [])) t
      refine XS.aload X249.here hx rfl (hb hby at_287) rfl rfl ?_
      exact kt
    obtain ⟨cl256, Ar256, -, Sz256, Nn256, -, -⟩ := id Va226
    have S257 : ∀ t, Steps p.tables e below (T249.setTop (mkF m 292 #[.val (.int kc), .val (.int lens), .val (.int q0), .val (.int q1), .val (.int q2), .val (.int (lens &&& (3 : Int32))), .val (.int (((lens.toUInt32 >>> ((2 : Int32) &&& 31).toUInt32).toInt32) &&& (3 : Int32))), .val (.int ((kc &&& (255 : Int32)).toUInt32.toUInt16.toUInt32.toInt32)), .val (.int ((((kc.toUInt32 >>> ((8 : Int32) &&& 31).toUInt32).toInt32) &&& (255 : Int32)).toUInt32.toUInt16.toUInt32.toInt32)), .val (.int ((((kc.toUInt32 >>> ((16 : Int32) &&& 31).toUInt32).toInt32) &&& (255 : Int32)).toUInt32.toUInt16.toUInt32.toInt32)), .val (.ref ky), .val (.int (q0.toInt8.toInt32)), .val (.int (q1.toInt8.toInt32)), .val (.int (q2.toInt8.toInt32)), .val (.ref b220), .val (.ref r226), .val (.ref ky), .val (.ref tb226), .unset] [(.int (((lens.toUInt32 >>> ((2 : Int32) &&& 31).toUInt32).toInt32) &&& (3 : Int32))), (.int (0 : Int32))])) t → Steps p.tables e below (s₁.setTop (entryFrame m #[(.int kc), (.int lens), (.int q0), (.int q1), (.int q2)] maxLocals)) t := fun t kt => by
      refine S255 t ?_
      show Steps p.tables e below (T249.setTop (mkF m 289 #[.val (.int kc), .val (.int lens), .val (.int q0), .val (.int q1), .val (.int q2), .val (.int (lens &&& (3 : Int32))), .val (.int (((lens.toUInt32 >>> ((2 : Int32) &&& 31).toUInt32).toInt32) &&& (3 : Int32))), .val (.int ((kc &&& (255 : Int32)).toUInt32.toUInt16.toUInt32.toInt32)), .val (.int ((((kc.toUInt32 >>> ((8 : Int32) &&& 31).toUInt32).toInt32) &&& (255 : Int32)).toUInt32.toUInt16.toUInt32.toInt32)), .val (.int ((((kc.toUInt32 >>> ((16 : Int32) &&& 31).toUInt32).toInt32) &&& (255 : Int32)).toUInt32.toUInt16.toUInt32.toInt32)), .val (.ref ky), .val (.int (q0.toInt8.toInt32)), .val (.int (q1.toInt8.toInt32)), .val (.int (q2.toInt8.toInt32)), .val (.ref b220), .val (.ref r226), .val (.ref ky), .val (.ref tb226), .unset] [(.ref tb226)])) t
      refine X249.arraylength hx (by rw [eq247]; exact Ar256.1) (State.isArrayOf_alike hZ2.alike Ar256.2.1) (g := (mkF m 289 #[.val (.int kc), .val (.int lens), .val (.int q0), .val (.int q1), .val (.int q2), .val (.int (lens &&& (3 : Int32))), .val (.int (((lens.toUInt32 >>> ((2 : Int32) &&& 31).toUInt32).toInt32) &&& (3 : Int32))), .val (.int ((kc &&& (255 : Int32)).toUInt32.toUInt16.toUInt32.toInt32)), .val (.int ((((kc.toUInt32 >>> ((8 : Int32) &&& 31).toUInt32).toInt32) &&& (255 : Int32)).toUInt32.toUInt16.toUInt32.toInt32)), .val (.int ((((kc.toUInt32 >>> ((16 : Int32) &&& 31).toUInt32).toInt32) &&& (255 : Int32)).toUInt32.toUInt16.toUInt32.toInt32)), .val (.ref ky), .val (.int (q0.toInt8.toInt32)), .val (.int (q1.toInt8.toInt32)), .val (.int (q2.toInt8.toInt32)), .val (.ref b220), .val (.ref r226), .val (.ref ky), .val (.ref tb226), .unset] [(.ref tb226)])) rfl rfl (hb hby at_289) _ ?_
      rw [len_of Sz256 Nn256]
      show Steps p.tables e below (T249.setTop (mkF m 290 #[.val (.int kc), .val (.int lens), .val (.int q0), .val (.int q1), .val (.int q2), .val (.int (lens &&& (3 : Int32))), .val (.int (((lens.toUInt32 >>> ((2 : Int32) &&& 31).toUInt32).toInt32) &&& (3 : Int32))), .val (.int ((kc &&& (255 : Int32)).toUInt32.toUInt16.toUInt32.toInt32)), .val (.int ((((kc.toUInt32 >>> ((8 : Int32) &&& 31).toUInt32).toInt32) &&& (255 : Int32)).toUInt32.toUInt16.toUInt32.toInt32)), .val (.int ((((kc.toUInt32 >>> ((16 : Int32) &&& 31).toUInt32).toInt32) &&& (255 : Int32)).toUInt32.toUInt16.toUInt32.toInt32)), .val (.ref ky), .val (.int (q0.toInt8.toInt32)), .val (.int (q1.toInt8.toInt32)), .val (.int (q2.toInt8.toInt32)), .val (.ref b220), .val (.ref r226), .val (.ref ky), .val (.ref tb226), .unset] [(.int (0 : Int32))])) t
      refine XS.iload X249.here hx rfl (hb hby at_290) rfl ?_
      exact kt
    have hc292_258 : (0 : Int32) = (((lens.toUInt32 >>> ((2 : Int32) &&& 31).toUInt32).toInt32) &&& (3 : Int32)) := hc161.symm
    have S260 : ∀ t, Steps p.tables e below (T249.setTop (mkF m 305 #[.val (.int kc), .val (.int lens), .val (.int q0), .val (.int q1), .val (.int q2), .val (.int (lens &&& (3 : Int32))), .val (.int (((lens.toUInt32 >>> ((2 : Int32) &&& 31).toUInt32).toInt32) &&& (3 : Int32))), .val (.int ((kc &&& (255 : Int32)).toUInt32.toUInt16.toUInt32.toInt32)), .val (.int ((((kc.toUInt32 >>> ((8 : Int32) &&& 31).toUInt32).toInt32) &&& (255 : Int32)).toUInt32.toUInt16.toUInt32.toInt32)), .val (.int ((((kc.toUInt32 >>> ((16 : Int32) &&& 31).toUInt32).toInt32) &&& (255 : Int32)).toUInt32.toUInt16.toUInt32.toInt32)), .val (.ref ky), .val (.int (q0.toInt8.toInt32)), .val (.int (q1.toInt8.toInt32)), .val (.int (q2.toInt8.toInt32)), .val (.ref b220), .val (.ref r226), .val (.ref ky), .val (.ref tb226), .unset] [(.int (q2.toInt8.toInt32)), (.int (q1.toInt8.toInt32)), (.int (q0.toInt8.toInt32)), (.ref tb226)])) t → Steps p.tables e below (s₁.setTop (entryFrame m #[(.int kc), (.int lens), (.int q0), (.int q1), (.int q2)] maxLocals)) t := fun t kt => by
      refine S257 t ?_
      show Steps p.tables e below (T249.setTop (mkF m 292 #[.val (.int kc), .val (.int lens), .val (.int q0), .val (.int q1), .val (.int q2), .val (.int (lens &&& (3 : Int32))), .val (.int (((lens.toUInt32 >>> ((2 : Int32) &&& 31).toUInt32).toInt32) &&& (3 : Int32))), .val (.int ((kc &&& (255 : Int32)).toUInt32.toUInt16.toUInt32.toInt32)), .val (.int ((((kc.toUInt32 >>> ((8 : Int32) &&& 31).toUInt32).toInt32) &&& (255 : Int32)).toUInt32.toUInt16.toUInt32.toInt32)), .val (.int ((((kc.toUInt32 >>> ((16 : Int32) &&& 31).toUInt32).toInt32) &&& (255 : Int32)).toUInt32.toUInt16.toUInt32.toInt32)), .val (.ref ky), .val (.int (q0.toInt8.toInt32)), .val (.int (q1.toInt8.toInt32)), .val (.int (q2.toInt8.toInt32)), .val (.ref b220), .val (.ref r226), .val (.ref ky), .val (.ref tb226), .unset] [(.int (((lens.toUInt32 >>> ((2 : Int32) &&& 31).toUInt32).toInt32) &&& (3 : Int32))), (.int (0 : Int32))])) t
      refine XS.icmpYes X249.here hx rfl (pc0 := 292) (pc' := 297) rfl (hb hby at_292) rfl (teq hc292_258).1 (by decide) (by decide) ?_
      refine XS.aload X249.here hx rfl (hb hby at_297) rfl rfl ?_
      refine XS.iload X249.here hx rfl (hb hby at_299) rfl ?_
      refine XS.iload X249.here hx rfl (hb hby at_301) rfl ?_
      refine XS.iload X249.here hx rfl (hb hby at_303) rfl ?_
      exact kt
    obtain ⟨_, _, ⟨T261, L261, k261, n261⟩, -, X261, ⟨Lc261, hQ261, l261, y261, z261⟩, st261⟩ := Jvm.LawKit.callS X249 hx (y := (⟨"com/example/nestwarden/nestwarden/store/ChangeKeepPinLaw", "same", "([BBBB)Z"⟩ : MethodName)) ho2 (mvT hZ2 (hw _ (List.mem_of_getElem? (i := 73) rfl))) (mvT hZ2 (hw _ (List.mem_of_getElem? (i := 74) rfl))) (mvT hZ2 (hw _ (List.mem_of_getElem? (i := 75) rfl))) (mvT hZ2 (hw _ (List.mem_of_getElem? (i := 76) rfl))) (by decide) (backOf (W := 0) (own_rm13n0 l Z a0 hw [] (tb226) ((q0.toInt8.toInt32)) ((q1.toInt8.toInt32)) ((q2.toInt8.toInt32)) (k220) T229.heap n0 (Nat.le_trans Z0 K237.1) Va226) hZ2 (hw _ (List.mem_of_getElem? (i := 76) rfl)) (hw _ (List.mem_of_getElem? (i := 75) rfl)) (by decide) (by decide)) (g := (mkF m 305 #[.val (.int kc), .val (.int lens), .val (.int q0), .val (.int q1), .val (.int q2), .val (.int (lens &&& (3 : Int32))), .val (.int (((lens.toUInt32 >>> ((2 : Int32) &&& 31).toUInt32).toInt32) &&& (3 : Int32))), .val (.int ((kc &&& (255 : Int32)).toUInt32.toUInt16.toUInt32.toInt32)), .val (.int ((((kc.toUInt32 >>> ((8 : Int32) &&& 31).toUInt32).toInt32) &&& (255 : Int32)).toUInt32.toUInt16.toUInt32.toInt32)), .val (.int ((((kc.toUInt32 >>> ((16 : Int32) &&& 31).toUInt32).toInt32) &&& (255 : Int32)).toUInt32.toUInt16.toUInt32.toInt32)), .val (.ref ky), .val (.int (q0.toInt8.toInt32)), .val (.int (q1.toInt8.toInt32)), .val (.int (q2.toInt8.toInt32)), .val (.ref b220), .val (.ref r226), .val (.ref ky), .val (.ref tb226), .unset] [(.int (q2.toInt8.toInt32)), (.int (q1.toInt8.toInt32)), (.int (q0.toInt8.toInt32)), (.ref tb226)])) rfl (by rw [hml]; rfl) (argsL := [(.ref tb226), (.int (q0.toInt8.toInt32)), (.int (q1.toInt8.toInt32)), (.int (q2.toInt8.toInt32))]) (rest := []) (lenOf own_pd11 rfl) rfl (by show 2 * 0 + _ ≤ _; exact Nat.le_of_eq rfl) (hb hby at_305) (fun _ _ => ⟨rfl, eq247, (by decide : 11 + 0 ≤ _), (by decide : 66 + 0 ≤ _)⟩)
    dsimp only [Pt.U, Pt.locs, Pt.cells, Pt.slots] at X261 l261 y261 z261 st261 hQ261
    subst l261 y261 z261
    obtain ⟨rfl, rfl, eq259⟩ := hQ261
    try rw [List.append_nil] at X261
    have S262 : ∀ t, Steps p.tables e below (T261.setTop (mkF m 308 #[.val (.int kc), .val (.int lens), .val (.int q0), .val (.int q1), .val (.int q2), .val (.int (lens &&& (3 : Int32))), .val (.int (((lens.toUInt32 >>> ((2 : Int32) &&& 31).toUInt32).toInt32) &&& (3 : Int32))), .val (.int ((kc &&& (255 : Int32)).toUInt32.toUInt16.toUInt32.toInt32)), .val (.int ((((kc.toUInt32 >>> ((8 : Int32) &&& 31).toUInt32).toInt32) &&& (255 : Int32)).toUInt32.toUInt16.toUInt32.toInt32)), .val (.int ((((kc.toUInt32 >>> ((16 : Int32) &&& 31).toUInt32).toInt32) &&& (255 : Int32)).toUInt32.toUInt16.toUInt32.toInt32)), .val (.ref ky), .val (.int (q0.toInt8.toInt32)), .val (.int (q1.toInt8.toInt32)), .val (.int (q2.toInt8.toInt32)), .val (.ref b220), .val (.ref r226), .val (.ref ky), .val (.ref tb226), .unset] [(.int (1 : Int32))])) t → Steps p.tables e below (s₁.setTop (entryFrame m #[(.int kc), (.int lens), (.int q0), (.int q1), (.int q2)] maxLocals)) t := fun t kt => S260 t (st261 _ kt)
    have hc308_263 : ¬ ((1 : Int32) = (0 : Int32)) := by decide
    have S265 : ∀ t, Steps p.tables e below (T261.setTop (mkF m 321 #[.val (.int kc), .val (.int lens), .val (.int q0), .val (.int q1), .val (.int q2), .val (.int (lens &&& (3 : Int32))), .val (.int (((lens.toUInt32 >>> ((2 : Int32) &&& 31).toUInt32).toInt32) &&& (3 : Int32))), .val (.int ((kc &&& (255 : Int32)).toUInt32.toUInt16.toUInt32.toInt32)), .val (.int ((((kc.toUInt32 >>> ((8 : Int32) &&& 31).toUInt32).toInt32) &&& (255 : Int32)).toUInt32.toUInt16.toUInt32.toInt32)), .val (.int ((((kc.toUInt32 >>> ((16 : Int32) &&& 31).toUInt32).toInt32) &&& (255 : Int32)).toUInt32.toUInt16.toUInt32.toInt32)), .val (.ref ky), .val (.int (q0.toInt8.toInt32)), .val (.int (q1.toInt8.toInt32)), .val (.int (q2.toInt8.toInt32)), .val (.ref b220), .val (.ref r226), .val (.ref ky), .val (.ref tb226), .unset] [(.int (q2.toInt8.toInt32)), (.int (q1.toInt8.toInt32)), (.int (q0.toInt8.toInt32)), (.ref b220)])) t → Steps p.tables e below (s₁.setTop (entryFrame m #[(.int kc), (.int lens), (.int q0), (.int q1), (.int q2)] maxLocals)) t := fun t kt => by
      refine S262 t ?_
      show Steps p.tables e below (T261.setTop (mkF m 308 #[.val (.int kc), .val (.int lens), .val (.int q0), .val (.int q1), .val (.int q2), .val (.int (lens &&& (3 : Int32))), .val (.int (((lens.toUInt32 >>> ((2 : Int32) &&& 31).toUInt32).toInt32) &&& (3 : Int32))), .val (.int ((kc &&& (255 : Int32)).toUInt32.toUInt16.toUInt32.toInt32)), .val (.int ((((kc.toUInt32 >>> ((8 : Int32) &&& 31).toUInt32).toInt32) &&& (255 : Int32)).toUInt32.toUInt16.toUInt32.toInt32)), .val (.int ((((kc.toUInt32 >>> ((16 : Int32) &&& 31).toUInt32).toInt32) &&& (255 : Int32)).toUInt32.toUInt16.toUInt32.toInt32)), .val (.ref ky), .val (.int (q0.toInt8.toInt32)), .val (.int (q1.toInt8.toInt32)), .val (.int (q2.toInt8.toInt32)), .val (.ref b220), .val (.ref r226), .val (.ref ky), .val (.ref tb226), .unset] [(.int (1 : Int32))])) t
      refine XS.ifYes X261.here hx rfl (pc0 := 308) (pc' := 313) rfl (hb hby at_308) rfl ((if0 _ _).trans (feq hc308_263).2) (by decide) (by decide) ?_
      refine XS.aload X261.here hx rfl (hb hby at_313) rfl rfl ?_
      refine XS.iload X261.here hx rfl (hb hby at_315) rfl ?_
      refine XS.iload X261.here hx rfl (hb hby at_317) rfl ?_
      refine XS.iload X261.here hx rfl (hb hby at_319) rfl ?_
      exact kt
    obtain ⟨_, _, ⟨T266, L266, k266, n266⟩, -, X266, ⟨Lc266, hQ266, l266, y266, z266⟩, st266⟩ := Jvm.LawKit.callS X261 hx (y := (⟨"com/example/nestwarden/nestwarden/store/ChangeKeepPinLaw", "same", "([BBBB)Z"⟩ : MethodName)) ho2 (mvT hZ2 (hw _ (List.mem_of_getElem? (i := 73) rfl))) (mvT hZ2 (hw _ (List.mem_of_getElem? (i := 74) rfl))) (mvT hZ2 (hw _ (List.mem_of_getElem? (i := 75) rfl))) (mvT hZ2 (hw _ (List.mem_of_getElem? (i := 76) rfl))) (by decide) (backOf (W := 0) (own_rm13n0 l Z a0 hw [] (b220) ((q0.toInt8.toInt32)) ((q1.toInt8.toInt32)) ((q2.toInt8.toInt32)) (k220) T229.heap n0 (Nat.le_trans Z0 K237.1) F235) hZ2 (hw _ (List.mem_of_getElem? (i := 76) rfl)) (hw _ (List.mem_of_getElem? (i := 75) rfl)) (by decide) (by decide)) (g := (mkF m 321 #[.val (.int kc), .val (.int lens), .val (.int q0), .val (.int q1), .val (.int q2), .val (.int (lens &&& (3 : Int32))), .val (.int (((lens.toUInt32 >>> ((2 : Int32) &&& 31).toUInt32).toInt32) &&& (3 : Int32))), .val (.int ((kc &&& (255 : Int32)).toUInt32.toUInt16.toUInt32.toInt32)), .val (.int ((((kc.toUInt32 >>> ((8 : Int32) &&& 31).toUInt32).toInt32) &&& (255 : Int32)).toUInt32.toUInt16.toUInt32.toInt32)), .val (.int ((((kc.toUInt32 >>> ((16 : Int32) &&& 31).toUInt32).toInt32) &&& (255 : Int32)).toUInt32.toUInt16.toUInt32.toInt32)), .val (.ref ky), .val (.int (q0.toInt8.toInt32)), .val (.int (q1.toInt8.toInt32)), .val (.int (q2.toInt8.toInt32)), .val (.ref b220), .val (.ref r226), .val (.ref ky), .val (.ref tb226), .unset] [(.int (q2.toInt8.toInt32)), (.int (q1.toInt8.toInt32)), (.int (q0.toInt8.toInt32)), (.ref b220)])) rfl (by rw [hml]; rfl) (argsL := [(.ref b220), (.int (q0.toInt8.toInt32)), (.int (q1.toInt8.toInt32)), (.int (q2.toInt8.toInt32))]) (rest := []) (lenOf own_pd11 rfl) rfl (by show 2 * 0 + _ ≤ _; exact Nat.le_of_eq rfl) (hb hby at_321) (fun _ _ => ⟨rfl, eq259, (by decide : 11 + 0 ≤ _), (by decide : 66 + 0 ≤ _)⟩)
    dsimp only [Pt.U, Pt.locs, Pt.cells, Pt.slots] at X266 l266 y266 z266 st266 hQ266
    subst l266 y266 z266
    obtain ⟨rfl, rfl, eq264⟩ := hQ266
    try rw [List.append_nil] at X266
    have S267 : ∀ t, Steps p.tables e below (T266.setTop (mkF m 324 #[.val (.int kc), .val (.int lens), .val (.int q0), .val (.int q1), .val (.int q2), .val (.int (lens &&& (3 : Int32))), .val (.int (((lens.toUInt32 >>> ((2 : Int32) &&& 31).toUInt32).toInt32) &&& (3 : Int32))), .val (.int ((kc &&& (255 : Int32)).toUInt32.toUInt16.toUInt32.toInt32)), .val (.int ((((kc.toUInt32 >>> ((8 : Int32) &&& 31).toUInt32).toInt32) &&& (255 : Int32)).toUInt32.toUInt16.toUInt32.toInt32)), .val (.int ((((kc.toUInt32 >>> ((16 : Int32) &&& 31).toUInt32).toInt32) &&& (255 : Int32)).toUInt32.toUInt16.toUInt32.toInt32)), .val (.ref ky), .val (.int (q0.toInt8.toInt32)), .val (.int (q1.toInt8.toInt32)), .val (.int (q2.toInt8.toInt32)), .val (.ref b220), .val (.ref r226), .val (.ref ky), .val (.ref tb226), .unset] [(.int (1 : Int32))])) t → Steps p.tables e below (s₁.setTop (entryFrame m #[(.int kc), (.int lens), (.int q0), (.int q1), (.int q2)] maxLocals)) t := fun t kt => S265 t (st266 _ kt)
    have hc324_268 : ¬ ((1 : Int32) = (0 : Int32)) := by decide
    have S271 : ∀ t, Steps p.tables e below (T266.setTop (mkF m 331 #[.val (.int kc), .val (.int lens), .val (.int q0), .val (.int q1), .val (.int q2), .val (.int (lens &&& (3 : Int32))), .val (.int (((lens.toUInt32 >>> ((2 : Int32) &&& 31).toUInt32).toInt32) &&& (3 : Int32))), .val (.int ((kc &&& (255 : Int32)).toUInt32.toUInt16.toUInt32.toInt32)), .val (.int ((((kc.toUInt32 >>> ((8 : Int32) &&& 31).toUInt32).toInt32) &&& (255 : Int32)).toUInt32.toUInt16.toUInt32.toInt32)), .val (.int ((((kc.toUInt32 >>> ((16 : Int32) &&& 31).toUInt32).toInt32) &&& (255 : Int32)).toUInt32.toUInt16.toUInt32.toInt32)), .val (.ref ky), .val (.int (q0.toInt8.toInt32)), .val (.int (q1.toInt8.toInt32)), .val (.int (q2.toInt8.toInt32)), .val (.ref b220), .val (.ref r226), .val (.ref ky), .val (.ref tb226), .unset] [(.ref b220)])) t → Steps p.tables e below (s₁.setTop (entryFrame m #[(.int kc), (.int lens), (.int q0), (.int q1), (.int q2)] maxLocals)) t := fun t kt => by
      refine S267 t ?_
      show Steps p.tables e below (T266.setTop (mkF m 324 #[.val (.int kc), .val (.int lens), .val (.int q0), .val (.int q1), .val (.int q2), .val (.int (lens &&& (3 : Int32))), .val (.int (((lens.toUInt32 >>> ((2 : Int32) &&& 31).toUInt32).toInt32) &&& (3 : Int32))), .val (.int ((kc &&& (255 : Int32)).toUInt32.toUInt16.toUInt32.toInt32)), .val (.int ((((kc.toUInt32 >>> ((8 : Int32) &&& 31).toUInt32).toInt32) &&& (255 : Int32)).toUInt32.toUInt16.toUInt32.toInt32)), .val (.int ((((kc.toUInt32 >>> ((16 : Int32) &&& 31).toUInt32).toInt32) &&& (255 : Int32)).toUInt32.toUInt16.toUInt32.toInt32)), .val (.ref ky), .val (.int (q0.toInt8.toInt32)), .val (.int (q1.toInt8.toInt32)), .val (.int (q2.toInt8.toInt32)), .val (.ref b220), .val (.ref r226), .val (.ref ky), .val (.ref tb226), .unset] [(.int (1 : Int32))])) t
      refine XS.ifYes X266.here hx rfl (pc0 := 324) (pc' := 329) rfl (hb hby at_324) rfl ((if0 _ _).trans (feq hc324_268).2) (by decide) (by decide) ?_
      refine XS.aload X266.here hx rfl (hb hby at_329) rfl rfl ?_
      exact kt
    obtain ⟨_, _, ⟨T272, L272, k272, n272⟩, -, X272, ⟨Lc272, hQ272, l272, y272, z272⟩, st272⟩ := Jvm.LawKit.callS X266 hx (y := (⟨"com/example/nestwarden/nestwarden/store/ChangeKeepPinLaw", "flip", "([B)V"⟩ : MethodName)) ho2 (mvT hZ2 (hw _ (List.mem_of_getElem? (i := 77) rfl))) (mvT hZ2 (hw _ (List.mem_of_getElem? (i := 78) rfl))) (mvT hZ2 (hw _ (List.mem_of_getElem? (i := 75) rfl))) (mvT hZ2 (hw _ (List.mem_of_getElem? (i := 79) rfl))) (by decide) (backOf (W := 0) (own_rm14n0 l Z a0 hw [] (b220) (k220) T229.heap n0 (Nat.le_trans Z0 K237.1) F235 g_b220) hZ2 (hw _ (List.mem_of_getElem? (i := 79) rfl)) (hw _ (List.mem_of_getElem? (i := 75) rfl)) (by decide) (by decide)) (g := (mkF m 331 #[.val (.int kc), .val (.int lens), .val (.int q0), .val (.int q1), .val (.int q2), .val (.int (lens &&& (3 : Int32))), .val (.int (((lens.toUInt32 >>> ((2 : Int32) &&& 31).toUInt32).toInt32) &&& (3 : Int32))), .val (.int ((kc &&& (255 : Int32)).toUInt32.toUInt16.toUInt32.toInt32)), .val (.int ((((kc.toUInt32 >>> ((8 : Int32) &&& 31).toUInt32).toInt32) &&& (255 : Int32)).toUInt32.toUInt16.toUInt32.toInt32)), .val (.int ((((kc.toUInt32 >>> ((16 : Int32) &&& 31).toUInt32).toInt32) &&& (255 : Int32)).toUInt32.toUInt16.toUInt32.toInt32)), .val (.ref ky), .val (.int (q0.toInt8.toInt32)), .val (.int (q1.toInt8.toInt32)), .val (.int (q2.toInt8.toInt32)), .val (.ref b220), .val (.ref r226), .val (.ref ky), .val (.ref tb226), .unset] [(.ref b220)])) rfl (by rw [hml]; rfl) (argsL := [(.ref b220)]) (rest := []) (lenOf own_pd12 rfl) rfl (by show 2 * 0 + _ ≤ _; exact Nat.le_of_eq rfl) (hb hby at_331) (fun _ _ => ⟨rfl, eq264, (by decide : 11 + 0 ≤ _), (by decide : 66 + 0 ≤ _)⟩)
    dsimp only [Pt.U, Pt.locs, Pt.cells, Pt.slots] at X272 l272 y272 z272 st272 hQ272
    subst l272 y272 z272
    obtain ⟨rfl, Nq272, Kc269⟩ := hQ272
    have N273 := Fr.app N230 Nq272
    have S274 : ∀ t, Steps p.tables e below (T272.setTop (mkF m 334 #[.val (.int kc), .val (.int lens), .val (.int q0), .val (.int q1), .val (.int q2), .val (.int (lens &&& (3 : Int32))), .val (.int (((lens.toUInt32 >>> ((2 : Int32) &&& 31).toUInt32).toInt32) &&& (3 : Int32))), .val (.int ((kc &&& (255 : Int32)).toUInt32.toUInt16.toUInt32.toInt32)), .val (.int ((((kc.toUInt32 >>> ((8 : Int32) &&& 31).toUInt32).toInt32) &&& (255 : Int32)).toUInt32.toUInt16.toUInt32.toInt32)), .val (.int ((((kc.toUInt32 >>> ((16 : Int32) &&& 31).toUInt32).toInt32) &&& (255 : Int32)).toUInt32.toUInt16.toUInt32.toInt32)), .val (.ref ky), .val (.int (q0.toInt8.toInt32)), .val (.int (q1.toInt8.toInt32)), .val (.int (q2.toInt8.toInt32)), .val (.ref b220), .val (.ref r226), .val (.ref ky), .val (.ref tb226), .unset] [])) t → Steps p.tables e below (s₁.setTop (entryFrame m #[(.int kc), (.int lens), (.int q0), (.int q1), (.int q2)] maxLocals)) t := fun t kt => S271 t (st272 _ kt)
    have Sf275 := Safe.keep Kc269 (allS Sf232 all0) CR233.1 Sf232
    have CR276 := CR233.trans (CHr.keep Kc269 (allS Sf232 all0) CR233.1)
    have F277 := F234.keep Kc269
    have F278 := F236.keep Kc269
    have F279 := Ec226.keep Kc269
    have F280 := Fk226.keep Kc269 (ninS (Exa.neArv Ec226 F235 (hw _ (List.mem_of_getElem? (i := 35) rfl))) nin0)
    have F281 := Fr226.keep Kc269 (ninS (Exa.neArv Ec226 F235 (hw _ (List.mem_of_getElem? (i := 35) rfl))) nin0)
    have F282 := Va226.keep Kc269 (ninS (Ne.symm ne_b220_tb226) nin0)
    have K283 : Keep h0 T272.heap [] := K237.trans Kc269 (allS (Or.inr sz_b220) all0)
    have S285 : ∀ t, Steps p.tables e below (T272.setTop (mkF m 336 #[.val (.int kc), .val (.int lens), .val (.int q0), .val (.int q1), .val (.int q2), .val (.int (lens &&& (3 : Int32))), .val (.int (((lens.toUInt32 >>> ((2 : Int32) &&& 31).toUInt32).toInt32) &&& (3 : Int32))), .val (.int ((kc &&& (255 : Int32)).toUInt32.toUInt16.toUInt32.toInt32)), .val (.int ((((kc.toUInt32 >>> ((8 : Int32) &&& 31).toUInt32).toInt32) &&& (255 : Int32)).toUInt32.toUInt16.toUInt32.toInt32)), .val (.int ((((kc.toUInt32 >>> ((16 : Int32) &&& 31).toUInt32).toInt32) &&& (255 : Int32)).toUInt32.toUInt16.toUInt32.toInt32)), .val (.ref ky), .val (.int (q0.toInt8.toInt32)), .val (.int (q1.toInt8.toInt32)), .val (.int (q2.toInt8.toInt32)), .val (.ref b220), .val (.ref r226), .val (.ref ky), .val (.ref tb226), .unset] [(.ref r226)])) t → Steps p.tables e below (s₁.setTop (entryFrame m #[(.int kc), (.int lens), (.int q0), (.int q1), (.int q2)] maxLocals)) t := fun t kt => by
      refine S274 t ?_
      show Steps p.tables e below (T272.setTop (mkF m 334 #[.val (.int kc), .val (.int lens), .val (.int q0), .val (.int q1), .val (.int q2), .val (.int (lens &&& (3 : Int32))), .val (.int (((lens.toUInt32 >>> ((2 : Int32) &&& 31).toUInt32).toInt32) &&& (3 : Int32))), .val (.int ((kc &&& (255 : Int32)).toUInt32.toUInt16.toUInt32.toInt32)), .val (.int ((((kc.toUInt32 >>> ((8 : Int32) &&& 31).toUInt32).toInt32) &&& (255 : Int32)).toUInt32.toUInt16.toUInt32.toInt32)), .val (.int ((((kc.toUInt32 >>> ((16 : Int32) &&& 31).toUInt32).toInt32) &&& (255 : Int32)).toUInt32.toUInt16.toUInt32.toInt32)), .val (.ref ky), .val (.int (q0.toInt8.toInt32)), .val (.int (q1.toInt8.toInt32)), .val (.int (q2.toInt8.toInt32)), .val (.ref b220), .val (.ref r226), .val (.ref ky), .val (.ref tb226), .unset] [])) t
      refine XS.aload X272.here hx rfl (hb hby at_334) rfl rfl ?_
      exact kt
    obtain ⟨cq286, kq286, q286a, q286b, q286c⟩ := isOf hZ2 rfl F279
    obtain ⟨_, _, ⟨T286, L286, k286, n286⟩, -, X286, ⟨Lc286, hQ286, l286, y286, z286⟩, st286⟩ := X272.virtualBack hx (y := (⟨"com/example/nestwarden/nestwarden/store/Journal$Change", "record", "()[B"⟩ : MethodName)) (z := (⟨"com/example/nestwarden/nestwarden/store/Journal$Change", "record", "()[B"⟩ : MethodName)) ho2 (mvT hZ2 (hw _ (List.mem_of_getElem? (i := 63) rfl))) (mvT hZ2 (hw _ (List.mem_of_getElem? (i := 64) rfl))) (notFace_of_selects (args := #[]) (mvT hZ2 (hw _ (List.mem_of_getElem? (i := 66) rfl)))) (mvT hZ2 (hw _ (List.mem_of_getElem? (i := 66) rfl))) (mvT hZ2 (hw _ (List.mem_of_getElem? (i := 65) rfl))) (by decide) (backOf (W := 0) (own_rm11 l Z a0 hw [] (r226) (tb226) T272.heap n0 (Nat.le_trans Z0 K283.1) F281) hZ2 (hw _ (List.mem_of_getElem? (i := 67) rfl)) (hw _ (List.mem_of_getElem? (i := 32) rfl)) (by decide) (by decide)) q286a q286c (g := (mkF m 336 #[.val (.int kc), .val (.int lens), .val (.int q0), .val (.int q1), .val (.int q2), .val (.int (lens &&& (3 : Int32))), .val (.int (((lens.toUInt32 >>> ((2 : Int32) &&& 31).toUInt32).toInt32) &&& (3 : Int32))), .val (.int ((kc &&& (255 : Int32)).toUInt32.toUInt16.toUInt32.toInt32)), .val (.int ((((kc.toUInt32 >>> ((8 : Int32) &&& 31).toUInt32).toInt32) &&& (255 : Int32)).toUInt32.toUInt16.toUInt32.toInt32)), .val (.int ((((kc.toUInt32 >>> ((16 : Int32) &&& 31).toUInt32).toInt32) &&& (255 : Int32)).toUInt32.toUInt16.toUInt32.toInt32)), .val (.ref ky), .val (.int (q0.toInt8.toInt32)), .val (.int (q1.toInt8.toInt32)), .val (.int (q2.toInt8.toInt32)), .val (.ref b220), .val (.ref r226), .val (.ref ky), .val (.ref tb226), .unset] [(.ref r226)])) rfl (by rw [hml]; rfl) (Steps.refl _) (argsL := []) (rest := []) (lenOf own_pd9 rfl) rfl (by show 2 * 0 + _ ≤ _; exact Nat.le_of_eq rfl) (hb hby at_336) (fun _ _ => ⟨rfl, rfl, (by decide : 11 + 0 ≤ _), (by decide : 66 + 0 ≤ _)⟩)
    dsimp only [Pt.U, Pt.locs, Pt.cells, Pt.slots] at X286 l286 y286 z286 st286 hQ286
    subst l286 y286 z286
    obtain ⟨rfl, rfl, eq284⟩ := hQ286
    try rw [List.append_nil] at X286
    have S287 : ∀ t, Steps p.tables e below (T286.setTop (mkF m 339 #[.val (.int kc), .val (.int lens), .val (.int q0), .val (.int q1), .val (.int q2), .val (.int (lens &&& (3 : Int32))), .val (.int (((lens.toUInt32 >>> ((2 : Int32) &&& 31).toUInt32).toInt32) &&& (3 : Int32))), .val (.int ((kc &&& (255 : Int32)).toUInt32.toUInt16.toUInt32.toInt32)), .val (.int ((((kc.toUInt32 >>> ((8 : Int32) &&& 31).toUInt32).toInt32) &&& (255 : Int32)).toUInt32.toUInt16.toUInt32.toInt32)), .val (.int ((((kc.toUInt32 >>> ((16 : Int32) &&& 31).toUInt32).toInt32) &&& (255 : Int32)).toUInt32.toUInt16.toUInt32.toInt32)), .val (.ref ky), .val (.int (q0.toInt8.toInt32)), .val (.int (q1.toInt8.toInt32)), .val (.int (q2.toInt8.toInt32)), .val (.ref b220), .val (.ref r226), .val (.ref ky), .val (.ref tb226), .unset] [(.ref tb226)])) t → Steps p.tables e below (s₁.setTop (entryFrame m #[(.int kc), (.int lens), (.int q0), (.int q1), (.int q2)] maxLocals)) t := fun t kt => S285 t (st286.trans kt)
    have S288 : ∀ t, Steps p.tables e below (T286.setTop (mkF m 343 #[.val (.int kc), .val (.int lens), .val (.int q0), .val (.int q1), .val (.int q2), .val (.int (lens &&& (3 : Int32))), .val (.int (((lens.toUInt32 >>> ((2 : Int32) &&& 31).toUInt32).toInt32) &&& (3 : Int32))), .val (.int ((kc &&& (255 : Int32)).toUInt32.toUInt16.toUInt32.toInt32)), .val (.int ((((kc.toUInt32 >>> ((8 : Int32) &&& 31).toUInt32).toInt32) &&& (255 : Int32)).toUInt32.toUInt16.toUInt32.toInt32)), .val (.int ((((kc.toUInt32 >>> ((16 : Int32) &&& 31).toUInt32).toInt32) &&& (255 : Int32)).toUInt32.toUInt16.toUInt32.toInt32)), .val (.ref ky), .val (.int (q0.toInt8.toInt32)), .val (.int (q1.toInt8.toInt32)), .val (.int (q2.toInt8.toInt32)), .val (.ref b220), .val (.ref r226), .val (.ref ky), .val (.ref tb226), .val (.ref tb226)] [(.ref tb226)])) t → Steps p.tables e below (s₁.setTop (entryFrame m #[(.int kc), (.int lens), (.int q0), (.int q1), (.int q2)] maxLocals)) t := fun t kt => by
      refine S287 t ?_
      show Steps p.tables e below (T286.setTop (mkF m 339 #[.val (.int kc), .val (.int lens), .val (.int q0), .val (.int q1), .val (.int q2), .val (.int (lens &&& (3 : Int32))), .val (.int (((lens.toUInt32 >>> ((2 : Int32) &&& 31).toUInt32).toInt32) &&& (3 : Int32))), .val (.int ((kc &&& (255 : Int32)).toUInt32.toUInt16.toUInt32.toInt32)), .val (.int ((((kc.toUInt32 >>> ((8 : Int32) &&& 31).toUInt32).toInt32) &&& (255 : Int32)).toUInt32.toUInt16.toUInt32.toInt32)), .val (.int ((((kc.toUInt32 >>> ((16 : Int32) &&& 31).toUInt32).toInt32) &&& (255 : Int32)).toUInt32.toUInt16.toUInt32.toInt32)), .val (.ref ky), .val (.int (q0.toInt8.toInt32)), .val (.int (q1.toInt8.toInt32)), .val (.int (q2.toInt8.toInt32)), .val (.ref b220), .val (.ref r226), .val (.ref ky), .val (.ref tb226), .unset] [(.ref tb226)])) t
      refine XS.astore X286.here hx rfl (hb hby at_339) rfl rfl (l' := #[.val (.int kc), .val (.int lens), .val (.int q0), .val (.int q1), .val (.int q2), .val (.int (lens &&& (3 : Int32))), .val (.int (((lens.toUInt32 >>> ((2 : Int32) &&& 31).toUInt32).toInt32) &&& (3 : Int32))), .val (.int ((kc &&& (255 : Int32)).toUInt32.toUInt16.toUInt32.toInt32)), .val (.int ((((kc.toUInt32 >>> ((8 : Int32) &&& 31).toUInt32).toInt32) &&& (255 : Int32)).toUInt32.toUInt16.toUInt32.toInt32)), .val (.int ((((kc.toUInt32 >>> ((16 : Int32) &&& 31).toUInt32).toInt32) &&& (255 : Int32)).toUInt32.toUInt16.toUInt32.toInt32)), .val (.ref ky), .val (.int (q0.toInt8.toInt32)), .val (.int (q1.toInt8.toInt32)), .val (.int (q2.toInt8.toInt32)), .val (.ref b220), .val (.ref r226), .val (.ref ky), .val (.ref tb226), .val (.ref tb226)]) rfl ?_
      refine XS.aload X286.here hx rfl (hb hby at_341) rfl rfl ?_
      exact kt
    have S289 : ∀ t, Steps p.tables e below (T286.setTop (mkF m 348 #[.val (.int kc), .val (.int lens), .val (.int q0), .val (.int q1), .val (.int q2), .val (.int (lens &&& (3 : Int32))), .val (.int (((lens.toUInt32 >>> ((2 : Int32) &&& 31).toUInt32).toInt32) &&& (3 : Int32))), .val (.int ((kc &&& (255 : Int32)).toUInt32.toUInt16.toUInt32.toInt32)), .val (.int ((((kc.toUInt32 >>> ((8 : Int32) &&& 31).toUInt32).toInt32) &&& (255 : Int32)).toUInt32.toUInt16.toUInt32.toInt32)), .val (.int ((((kc.toUInt32 >>> ((16 : Int32) &&& 31).toUInt32).toInt32) &&& (255 : Int32)).toUInt32.toUInt16.toUInt32.toInt32)), .val (.ref ky), .val (.int (q0.toInt8.toInt32)), .val (.int (q1.toInt8.toInt32)), .val (.int (q2.toInt8.toInt32)), .val (.ref b220), .val (.ref r226), .val (.ref ky), .val (.ref tb226), .val (.ref tb226)] [(.ref tb226)])) t → Steps p.tables e below (s₁.setTop (entryFrame m #[(.int kc), (.int lens), (.int q0), (.int q1), (.int q2)] maxLocals)) t := fun t kt => by
      refine S288 t ?_
      show Steps p.tables e below (T286.setTop (mkF m 343 #[.val (.int kc), .val (.int lens), .val (.int q0), .val (.int q1), .val (.int q2), .val (.int (lens &&& (3 : Int32))), .val (.int (((lens.toUInt32 >>> ((2 : Int32) &&& 31).toUInt32).toInt32) &&& (3 : Int32))), .val (.int ((kc &&& (255 : Int32)).toUInt32.toUInt16.toUInt32.toInt32)), .val (.int ((((kc.toUInt32 >>> ((8 : Int32) &&& 31).toUInt32).toInt32) &&& (255 : Int32)).toUInt32.toUInt16.toUInt32.toInt32)), .val (.int ((((kc.toUInt32 >>> ((16 : Int32) &&& 31).toUInt32).toInt32) &&& (255 : Int32)).toUInt32.toUInt16.toUInt32.toInt32)), .val (.ref ky), .val (.int (q0.toInt8.toInt32)), .val (.int (q1.toInt8.toInt32)), .val (.int (q2.toInt8.toInt32)), .val (.ref b220), .val (.ref r226), .val (.ref ky), .val (.ref tb226), .val (.ref tb226)] [(.ref tb226)])) t
      refine XS.ifnullNo X286.here hx rfl (hb hby at_343) rfl ?_
      refine XS.aload X286.here hx rfl (hb hby at_346) rfl rfl ?_
      exact kt
    obtain ⟨cl290, Ar290, -, Sz290, Nn290, -, -⟩ := id F282
    have S291 : ∀ t, Steps p.tables e below (T286.setTop (mkF m 351 #[.val (.int kc), .val (.int lens), .val (.int q0), .val (.int q1), .val (.int q2), .val (.int (lens &&& (3 : Int32))), .val (.int (((lens.toUInt32 >>> ((2 : Int32) &&& 31).toUInt32).toInt32) &&& (3 : Int32))), .val (.int ((kc &&& (255 : Int32)).toUInt32.toUInt16.toUInt32.toInt32)), .val (.int ((((kc.toUInt32 >>> ((8 : Int32) &&& 31).toUInt32).toInt32) &&& (255 : Int32)).toUInt32.toUInt16.toUInt32.toInt32)), .val (.int ((((kc.toUInt32 >>> ((16 : Int32) &&& 31).toUInt32).toInt32) &&& (255 : Int32)).toUInt32.toUInt16.toUInt32.toInt32)), .val (.ref ky), .val (.int (q0.toInt8.toInt32)), .val (.int (q1.toInt8.toInt32)), .val (.int (q2.toInt8.toInt32)), .val (.ref b220), .val (.ref r226), .val (.ref ky), .val (.ref tb226), .val (.ref tb226)] [(.int (((lens.toUInt32 >>> ((2 : Int32) &&& 31).toUInt32).toInt32) &&& (3 : Int32))), (.int (0 : Int32))])) t → Steps p.tables e below (s₁.setTop (entryFrame m #[(.int kc), (.int lens), (.int q0), (.int q1), (.int q2)] maxLocals)) t := fun t kt => by
      refine S289 t ?_
      show Steps p.tables e below (T286.setTop (mkF m 348 #[.val (.int kc), .val (.int lens), .val (.int q0), .val (.int q1), .val (.int q2), .val (.int (lens &&& (3 : Int32))), .val (.int (((lens.toUInt32 >>> ((2 : Int32) &&& 31).toUInt32).toInt32) &&& (3 : Int32))), .val (.int ((kc &&& (255 : Int32)).toUInt32.toUInt16.toUInt32.toInt32)), .val (.int ((((kc.toUInt32 >>> ((8 : Int32) &&& 31).toUInt32).toInt32) &&& (255 : Int32)).toUInt32.toUInt16.toUInt32.toInt32)), .val (.int ((((kc.toUInt32 >>> ((16 : Int32) &&& 31).toUInt32).toInt32) &&& (255 : Int32)).toUInt32.toUInt16.toUInt32.toInt32)), .val (.ref ky), .val (.int (q0.toInt8.toInt32)), .val (.int (q1.toInt8.toInt32)), .val (.int (q2.toInt8.toInt32)), .val (.ref b220), .val (.ref r226), .val (.ref ky), .val (.ref tb226), .val (.ref tb226)] [(.ref tb226)])) t
      refine X286.arraylength hx (by rw [(eq284.trans rfl)]; exact Ar290.1) (State.isArrayOf_alike hZ2.alike Ar290.2.1) (g := (mkF m 348 #[.val (.int kc), .val (.int lens), .val (.int q0), .val (.int q1), .val (.int q2), .val (.int (lens &&& (3 : Int32))), .val (.int (((lens.toUInt32 >>> ((2 : Int32) &&& 31).toUInt32).toInt32) &&& (3 : Int32))), .val (.int ((kc &&& (255 : Int32)).toUInt32.toUInt16.toUInt32.toInt32)), .val (.int ((((kc.toUInt32 >>> ((8 : Int32) &&& 31).toUInt32).toInt32) &&& (255 : Int32)).toUInt32.toUInt16.toUInt32.toInt32)), .val (.int ((((kc.toUInt32 >>> ((16 : Int32) &&& 31).toUInt32).toInt32) &&& (255 : Int32)).toUInt32.toUInt16.toUInt32.toInt32)), .val (.ref ky), .val (.int (q0.toInt8.toInt32)), .val (.int (q1.toInt8.toInt32)), .val (.int (q2.toInt8.toInt32)), .val (.ref b220), .val (.ref r226), .val (.ref ky), .val (.ref tb226), .val (.ref tb226)] [(.ref tb226)])) rfl rfl (hb hby at_348) _ ?_
      rw [len_of Sz290 Nn290]
      show Steps p.tables e below (T286.setTop (mkF m 349 #[.val (.int kc), .val (.int lens), .val (.int q0), .val (.int q1), .val (.int q2), .val (.int (lens &&& (3 : Int32))), .val (.int (((lens.toUInt32 >>> ((2 : Int32) &&& 31).toUInt32).toInt32) &&& (3 : Int32))), .val (.int ((kc &&& (255 : Int32)).toUInt32.toUInt16.toUInt32.toInt32)), .val (.int ((((kc.toUInt32 >>> ((8 : Int32) &&& 31).toUInt32).toInt32) &&& (255 : Int32)).toUInt32.toUInt16.toUInt32.toInt32)), .val (.int ((((kc.toUInt32 >>> ((16 : Int32) &&& 31).toUInt32).toInt32) &&& (255 : Int32)).toUInt32.toUInt16.toUInt32.toInt32)), .val (.ref ky), .val (.int (q0.toInt8.toInt32)), .val (.int (q1.toInt8.toInt32)), .val (.int (q2.toInt8.toInt32)), .val (.ref b220), .val (.ref r226), .val (.ref ky), .val (.ref tb226), .val (.ref tb226)] [(.int (0 : Int32))])) t
      refine XS.iload X286.here hx rfl (hb hby at_349) rfl ?_
      exact kt
    have hc351_292 : (0 : Int32) = (((lens.toUInt32 >>> ((2 : Int32) &&& 31).toUInt32).toInt32) &&& (3 : Int32)) := hc161.symm
    have S294 : ∀ t, Steps p.tables e below (T286.setTop (mkF m 362 #[.val (.int kc), .val (.int lens), .val (.int q0), .val (.int q1), .val (.int q2), .val (.int (lens &&& (3 : Int32))), .val (.int (((lens.toUInt32 >>> ((2 : Int32) &&& 31).toUInt32).toInt32) &&& (3 : Int32))), .val (.int ((kc &&& (255 : Int32)).toUInt32.toUInt16.toUInt32.toInt32)), .val (.int ((((kc.toUInt32 >>> ((8 : Int32) &&& 31).toUInt32).toInt32) &&& (255 : Int32)).toUInt32.toUInt16.toUInt32.toInt32)), .val (.int ((((kc.toUInt32 >>> ((16 : Int32) &&& 31).toUInt32).toInt32) &&& (255 : Int32)).toUInt32.toUInt16.toUInt32.toInt32)), .val (.ref ky), .val (.int (q0.toInt8.toInt32)), .val (.int (q1.toInt8.toInt32)), .val (.int (q2.toInt8.toInt32)), .val (.ref b220), .val (.ref r226), .val (.ref ky), .val (.ref tb226), .val (.ref tb226)] [(.int (q2.toInt8.toInt32)), (.int (q1.toInt8.toInt32)), (.int (q0.toInt8.toInt32)), (.ref tb226)])) t → Steps p.tables e below (s₁.setTop (entryFrame m #[(.int kc), (.int lens), (.int q0), (.int q1), (.int q2)] maxLocals)) t := fun t kt => by
      refine S291 t ?_
      show Steps p.tables e below (T286.setTop (mkF m 351 #[.val (.int kc), .val (.int lens), .val (.int q0), .val (.int q1), .val (.int q2), .val (.int (lens &&& (3 : Int32))), .val (.int (((lens.toUInt32 >>> ((2 : Int32) &&& 31).toUInt32).toInt32) &&& (3 : Int32))), .val (.int ((kc &&& (255 : Int32)).toUInt32.toUInt16.toUInt32.toInt32)), .val (.int ((((kc.toUInt32 >>> ((8 : Int32) &&& 31).toUInt32).toInt32) &&& (255 : Int32)).toUInt32.toUInt16.toUInt32.toInt32)), .val (.int ((((kc.toUInt32 >>> ((16 : Int32) &&& 31).toUInt32).toInt32) &&& (255 : Int32)).toUInt32.toUInt16.toUInt32.toInt32)), .val (.ref ky), .val (.int (q0.toInt8.toInt32)), .val (.int (q1.toInt8.toInt32)), .val (.int (q2.toInt8.toInt32)), .val (.ref b220), .val (.ref r226), .val (.ref ky), .val (.ref tb226), .val (.ref tb226)] [(.int (((lens.toUInt32 >>> ((2 : Int32) &&& 31).toUInt32).toInt32) &&& (3 : Int32))), (.int (0 : Int32))])) t
      refine XS.icmpNo X286.here hx rfl (hb hby at_351) rfl (teq hc351_292).2 ?_
      refine XS.aload X286.here hx rfl (hb hby at_354) rfl rfl ?_
      refine XS.iload X286.here hx rfl (hb hby at_356) rfl ?_
      refine XS.iload X286.here hx rfl (hb hby at_358) rfl ?_
      refine XS.iload X286.here hx rfl (hb hby at_360) rfl ?_
      exact kt
    obtain ⟨_, _, ⟨T295, L295, k295, n295⟩, -, X295, ⟨Lc295, hQ295, l295, y295, z295⟩, st295⟩ := Jvm.LawKit.callS X286 hx (y := (⟨"com/example/nestwarden/nestwarden/store/ChangeKeepPinLaw", "same", "([BBBB)Z"⟩ : MethodName)) ho2 (mvT hZ2 (hw _ (List.mem_of_getElem? (i := 73) rfl))) (mvT hZ2 (hw _ (List.mem_of_getElem? (i := 74) rfl))) (mvT hZ2 (hw _ (List.mem_of_getElem? (i := 75) rfl))) (mvT hZ2 (hw _ (List.mem_of_getElem? (i := 76) rfl))) (by decide) (backOf (W := 0) (own_rm13n0 l Z a0 hw [] (tb226) ((q0.toInt8.toInt32)) ((q1.toInt8.toInt32)) ((q2.toInt8.toInt32)) (k220) T272.heap n0 (Nat.le_trans Z0 K283.1) F282) hZ2 (hw _ (List.mem_of_getElem? (i := 76) rfl)) (hw _ (List.mem_of_getElem? (i := 75) rfl)) (by decide) (by decide)) (g := (mkF m 362 #[.val (.int kc), .val (.int lens), .val (.int q0), .val (.int q1), .val (.int q2), .val (.int (lens &&& (3 : Int32))), .val (.int (((lens.toUInt32 >>> ((2 : Int32) &&& 31).toUInt32).toInt32) &&& (3 : Int32))), .val (.int ((kc &&& (255 : Int32)).toUInt32.toUInt16.toUInt32.toInt32)), .val (.int ((((kc.toUInt32 >>> ((8 : Int32) &&& 31).toUInt32).toInt32) &&& (255 : Int32)).toUInt32.toUInt16.toUInt32.toInt32)), .val (.int ((((kc.toUInt32 >>> ((16 : Int32) &&& 31).toUInt32).toInt32) &&& (255 : Int32)).toUInt32.toUInt16.toUInt32.toInt32)), .val (.ref ky), .val (.int (q0.toInt8.toInt32)), .val (.int (q1.toInt8.toInt32)), .val (.int (q2.toInt8.toInt32)), .val (.ref b220), .val (.ref r226), .val (.ref ky), .val (.ref tb226), .val (.ref tb226)] [(.int (q2.toInt8.toInt32)), (.int (q1.toInt8.toInt32)), (.int (q0.toInt8.toInt32)), (.ref tb226)])) rfl (by rw [hml]; rfl) (argsL := [(.ref tb226), (.int (q0.toInt8.toInt32)), (.int (q1.toInt8.toInt32)), (.int (q2.toInt8.toInt32))]) (rest := []) (lenOf own_pd11 rfl) rfl (by show 2 * 0 + _ ≤ _; exact Nat.le_of_eq rfl) (hb hby at_362) (fun _ _ => ⟨rfl, (eq284.trans rfl), (by decide : 11 + 0 ≤ _), (by decide : 66 + 0 ≤ _)⟩)
    dsimp only [Pt.U, Pt.locs, Pt.cells, Pt.slots] at X295 l295 y295 z295 st295 hQ295
    subst l295 y295 z295
    obtain ⟨rfl, rfl, eq293⟩ := hQ295
    try rw [List.append_nil] at X295
    have S296 : ∀ t, Steps p.tables e below (T295.setTop (mkF m 365 #[.val (.int kc), .val (.int lens), .val (.int q0), .val (.int q1), .val (.int q2), .val (.int (lens &&& (3 : Int32))), .val (.int (((lens.toUInt32 >>> ((2 : Int32) &&& 31).toUInt32).toInt32) &&& (3 : Int32))), .val (.int ((kc &&& (255 : Int32)).toUInt32.toUInt16.toUInt32.toInt32)), .val (.int ((((kc.toUInt32 >>> ((8 : Int32) &&& 31).toUInt32).toInt32) &&& (255 : Int32)).toUInt32.toUInt16.toUInt32.toInt32)), .val (.int ((((kc.toUInt32 >>> ((16 : Int32) &&& 31).toUInt32).toInt32) &&& (255 : Int32)).toUInt32.toUInt16.toUInt32.toInt32)), .val (.ref ky), .val (.int (q0.toInt8.toInt32)), .val (.int (q1.toInt8.toInt32)), .val (.int (q2.toInt8.toInt32)), .val (.ref b220), .val (.ref r226), .val (.ref ky), .val (.ref tb226), .val (.ref tb226)] [(.int (1 : Int32))])) t → Steps p.tables e below (s₁.setTop (entryFrame m #[(.int kc), (.int lens), (.int q0), (.int q1), (.int q2)] maxLocals)) t := fun t kt => S294 t (st295 _ kt)
    have hc365_297 : ¬ ((1 : Int32) = (0 : Int32)) := by decide
    have S298 : ∀ t, Steps p.tables e below (T295.setTop (mkF m 373 #[.val (.int kc), .val (.int lens), .val (.int q0), .val (.int q1), .val (.int q2), .val (.int (lens &&& (3 : Int32))), .val (.int (((lens.toUInt32 >>> ((2 : Int32) &&& 31).toUInt32).toInt32) &&& (3 : Int32))), .val (.int ((kc &&& (255 : Int32)).toUInt32.toUInt16.toUInt32.toInt32)), .val (.int ((((kc.toUInt32 >>> ((8 : Int32) &&& 31).toUInt32).toInt32) &&& (255 : Int32)).toUInt32.toUInt16.toUInt32.toInt32)), .val (.int ((((kc.toUInt32 >>> ((16 : Int32) &&& 31).toUInt32).toInt32) &&& (255 : Int32)).toUInt32.toUInt16.toUInt32.toInt32)), .val (.ref ky), .val (.int (q0.toInt8.toInt32)), .val (.int (q1.toInt8.toInt32)), .val (.int (q2.toInt8.toInt32)), .val (.ref b220), .val (.ref r226), .val (.ref ky), .val (.ref tb226), .val (.ref tb226)] [(.int (1 : Int32))])) t → Steps p.tables e below (s₁.setTop (entryFrame m #[(.int kc), (.int lens), (.int q0), (.int q1), (.int q2)] maxLocals)) t := fun t kt => by
      refine S296 t ?_
      show Steps p.tables e below (T295.setTop (mkF m 365 #[.val (.int kc), .val (.int lens), .val (.int q0), .val (.int q1), .val (.int q2), .val (.int (lens &&& (3 : Int32))), .val (.int (((lens.toUInt32 >>> ((2 : Int32) &&& 31).toUInt32).toInt32) &&& (3 : Int32))), .val (.int ((kc &&& (255 : Int32)).toUInt32.toUInt16.toUInt32.toInt32)), .val (.int ((((kc.toUInt32 >>> ((8 : Int32) &&& 31).toUInt32).toInt32) &&& (255 : Int32)).toUInt32.toUInt16.toUInt32.toInt32)), .val (.int ((((kc.toUInt32 >>> ((16 : Int32) &&& 31).toUInt32).toInt32) &&& (255 : Int32)).toUInt32.toUInt16.toUInt32.toInt32)), .val (.ref ky), .val (.int (q0.toInt8.toInt32)), .val (.int (q1.toInt8.toInt32)), .val (.int (q2.toInt8.toInt32)), .val (.ref b220), .val (.ref r226), .val (.ref ky), .val (.ref tb226), .val (.ref tb226)] [(.int (1 : Int32))])) t
      refine XS.ifNo X295.here hx rfl (hb hby at_365) rfl ((if0 _ _).trans (feq hc365_297).1) ?_
      refine XS.iconst X295.here hx rfl (hb hby at_368) ?_
      refine XS.goto X295.here hx rfl (pc0 := 369) (pc' := 373) rfl (hb hby at_369) (by decide) (by decide) ?_
      exact kt
    obtain ⟨fs, hr, hrun, hended, -, hW, hBk, hsame⟩ := X295.leaveW hS2 (by rw [eq293]; exact (Nat.le_trans (Nat.le_trans (Nat.le_trans hk2 E220.1) Kc226.1) Kc269.1)) (v := some (.int (nar .boolean (1 : Int32)))) (fun h => by rw [Bd.returns] at h; cases h)
    refine ⟨_, _, S298 _ ?_, hrun, hended, _, _, rfl, ?_, (by show CHr Z own_EL s.vm s.heap T295.vm T295.heap; rw [hh, eq293]; exact CR276.trans (CHv.at X295 hZ2 hEL CR276.1)), ⟨_, rfl⟩, hW, hBk, hsame.mono (by decide) (by decide)⟩
    · show Steps p.tables e below (T295.setTop (mkF m 373 #[.val (.int kc), .val (.int lens), .val (.int q0), .val (.int q1), .val (.int q2), .val (.int (lens &&& (3 : Int32))), .val (.int (((lens.toUInt32 >>> ((2 : Int32) &&& 31).toUInt32).toInt32) &&& (3 : Int32))), .val (.int ((kc &&& (255 : Int32)).toUInt32.toUInt16.toUInt32.toInt32)), .val (.int ((((kc.toUInt32 >>> ((8 : Int32) &&& 31).toUInt32).toInt32) &&& (255 : Int32)).toUInt32.toUInt16.toUInt32.toInt32)), .val (.int ((((kc.toUInt32 >>> ((16 : Int32) &&& 31).toUInt32).toInt32) &&& (255 : Int32)).toUInt32.toUInt16.toUInt32.toInt32)), .val (.ref ky), .val (.int (q0.toInt8.toInt32)), .val (.int (q1.toInt8.toInt32)), .val (.int (q2.toInt8.toInt32)), .val (.ref b220), .val (.ref r226), .val (.ref ky), .val (.ref tb226), .val (.ref tb226)] [(.int (1 : Int32))])) _
      exact retN X295 hx (t := .boolean) Bd.returns (by simp) (hb hby at_373) hr
    · show own_Q0 Z kc lens q0 q1 q2 cs h0 n0 _ T295.heap _
      rw [eq293]
      exact ⟨rfl, N273⟩
  · skip
    have S299 : ∀ t, Steps p.tables e below (T2.setTop (mkF m 175 #[.val (.int kc), .val (.int lens), .val (.int q0), .val (.int q1), .val (.int q2), .val (.int (lens &&& (3 : Int32))), .val (.int (((lens.toUInt32 >>> ((2 : Int32) &&& 31).toUInt32).toInt32) &&& (3 : Int32))), .val (.int ((kc &&& (255 : Int32)).toUInt32.toUInt16.toUInt32.toInt32)), .val (.int ((((kc.toUInt32 >>> ((8 : Int32) &&& 31).toUInt32).toInt32) &&& (255 : Int32)).toUInt32.toUInt16.toUInt32.toInt32)), .val (.int ((((kc.toUInt32 >>> ((16 : Int32) &&& 31).toUInt32).toInt32) &&& (255 : Int32)).toUInt32.toUInt16.toUInt32.toInt32)), .val (.ref ky), .val (.int (q0.toInt8.toInt32)), .val (.int (q1.toInt8.toInt32)), .val (.int (q2.toInt8.toInt32)), .unset, .unset, .unset, .unset, .unset] [(.int (1 : Int32)), (.int (((lens.toUInt32 >>> ((2 : Int32) &&& 31).toUInt32).toInt32) &&& (3 : Int32)))])) t → Steps p.tables e below (s₁.setTop (entryFrame m #[(.int kc), (.int lens), (.int q0), (.int q1), (.int q2)] maxLocals)) t := fun t kt => by
      refine S218 t ?_
      show Steps p.tables e below (T2.setTop (mkF m 161 #[.val (.int kc), .val (.int lens), .val (.int q0), .val (.int q1), .val (.int q2), .val (.int (lens &&& (3 : Int32))), .val (.int (((lens.toUInt32 >>> ((2 : Int32) &&& 31).toUInt32).toInt32) &&& (3 : Int32))), .val (.int ((kc &&& (255 : Int32)).toUInt32.toUInt16.toUInt32.toInt32)), .val (.int ((((kc.toUInt32 >>> ((8 : Int32) &&& 31).toUInt32).toInt32) &&& (255 : Int32)).toUInt32.toUInt16.toUInt32.toInt32)), .val (.int ((((kc.toUInt32 >>> ((16 : Int32) &&& 31).toUInt32).toInt32) &&& (255 : Int32)).toUInt32.toUInt16.toUInt32.toInt32)), .val (.ref ky), .val (.int (q0.toInt8.toInt32)), .val (.int (q1.toInt8.toInt32)), .val (.int (q2.toInt8.toInt32)), .unset, .unset, .unset, .unset, .unset] [(.int (((lens.toUInt32 >>> ((2 : Int32) &&& 31).toUInt32).toInt32) &&& (3 : Int32)))])) t
      refine XS.ifYes X2.here hx rfl (pc0 := 161) (pc' := 172) rfl (hb hby at_161) rfl ((if0 _ _).trans (feq hc161).2) (by decide) (by decide) ?_
      refine XS.iload X2.here hx rfl (hb hby at_172) rfl ?_
      refine XS.iconst X2.here hx rfl (hb hby at_174) ?_
      exact kt
    by_cases hc175 : (((lens.toUInt32 >>> ((2 : Int32) &&& 31).toUInt32).toInt32) &&& (3 : Int32)) = (1 : Int32)
    · skip
      have S300 : ∀ t, Steps p.tables e below (T2.setTop (mkF m 179 #[.val (.int kc), .val (.int lens), .val (.int q0), .val (.int q1), .val (.int q2), .val (.int (lens &&& (3 : Int32))), .val (.int (((lens.toUInt32 >>> ((2 : Int32) &&& 31).toUInt32).toInt32) &&& (3 : Int32))), .val (.int ((kc &&& (255 : Int32)).toUInt32.toUInt16.toUInt32.toInt32)), .val (.int ((((kc.toUInt32 >>> ((8 : Int32) &&& 31).toUInt32).toInt32) &&& (255 : Int32)).toUInt32.toUInt16.toUInt32.toInt32)), .val (.int ((((kc.toUInt32 >>> ((16 : Int32) &&& 31).toUInt32).toInt32) &&& (255 : Int32)).toUInt32.toUInt16.toUInt32.toInt32)), .val (.ref ky), .val (.int (q0.toInt8.toInt32)), .val (.int (q1.toInt8.toInt32)), .val (.int (q2.toInt8.toInt32)), .unset, .unset, .unset, .unset, .unset] [(.int (1 : Int32))])) t → Steps p.tables e below (s₁.setTop (entryFrame m #[(.int kc), (.int lens), (.int q0), (.int q1), (.int q2)] maxLocals)) t := fun t kt => by
        refine S299 t ?_
        show Steps p.tables e below (T2.setTop (mkF m 175 #[.val (.int kc), .val (.int lens), .val (.int q0), .val (.int q1), .val (.int q2), .val (.int (lens &&& (3 : Int32))), .val (.int (((lens.toUInt32 >>> ((2 : Int32) &&& 31).toUInt32).toInt32) &&& (3 : Int32))), .val (.int ((kc &&& (255 : Int32)).toUInt32.toUInt16.toUInt32.toInt32)), .val (.int ((((kc.toUInt32 >>> ((8 : Int32) &&& 31).toUInt32).toInt32) &&& (255 : Int32)).toUInt32.toUInt16.toUInt32.toInt32)), .val (.int ((((kc.toUInt32 >>> ((16 : Int32) &&& 31).toUInt32).toInt32) &&& (255 : Int32)).toUInt32.toUInt16.toUInt32.toInt32)), .val (.ref ky), .val (.int (q0.toInt8.toInt32)), .val (.int (q1.toInt8.toInt32)), .val (.int (q2.toInt8.toInt32)), .unset, .unset, .unset, .unset, .unset] [(.int (1 : Int32)), (.int (((lens.toUInt32 >>> ((2 : Int32) &&& 31).toUInt32).toInt32) &&& (3 : Int32)))])) t
        refine XS.icmpNo X2.here hx rfl (hb hby at_175) rfl (teq hc175).2 ?_
        refine XS.iconst X2.here hx rfl (hb hby at_178) ?_
        exact kt
      obtain ⟨T301, h301, k301, X301, e301, E301, A301, AE301, st301⟩ := newPE X2 hx hZ2 (hw _ (List.mem_of_getElem? (i := 19) rfl)) e2 (g := (mkF m 179 #[.val (.int kc), .val (.int lens), .val (.int q0), .val (.int q1), .val (.int q2), .val (.int (lens &&& (3 : Int32))), .val (.int (((lens.toUInt32 >>> ((2 : Int32) &&& 31).toUInt32).toInt32) &&& (3 : Int32))), .val (.int ((kc &&& (255 : Int32)).toUInt32.toUInt16.toUInt32.toInt32)), .val (.int ((((kc.toUInt32 >>> ((8 : Int32) &&& 31).toUInt32).toInt32) &&& (255 : Int32)).toUInt32.toUInt16.toUInt32.toInt32)), .val (.int ((((kc.toUInt32 >>> ((16 : Int32) &&& 31).toUInt32).toInt32) &&& (255 : Int32)).toUInt32.toUInt16.toUInt32.toInt32)), .val (.ref ky), .val (.int (q0.toInt8.toInt32)), .val (.int (q1.toInt8.toInt32)), .val (.int (q2.toInt8.toInt32)), .unset, .unset, .unset, .unset, .unset] [(.int (1 : Int32))])) rfl (hb hby at_179) rfl (by decide) (cap := 1) (by decide) (by decide) (by decide) (by decide) (ad := "[B") rfl
      obtain ⟨b301, g301⟩ : ∃ z, z = h2.size := ⟨_, rfl⟩
      rw [← g301] at A301 st301 AE301
      have S302 : ∀ t, Steps p.tables e below (T301.setTop (mkF m 181 #[.val (.int kc), .val (.int lens), .val (.int q0), .val (.int q1), .val (.int q2), .val (.int (lens &&& (3 : Int32))), .val (.int (((lens.toUInt32 >>> ((2 : Int32) &&& 31).toUInt32).toInt32) &&& (3 : Int32))), .val (.int ((kc &&& (255 : Int32)).toUInt32.toUInt16.toUInt32.toInt32)), .val (.int ((((kc.toUInt32 >>> ((8 : Int32) &&& 31).toUInt32).toInt32) &&& (255 : Int32)).toUInt32.toUInt16.toUInt32.toInt32)), .val (.int ((((kc.toUInt32 >>> ((16 : Int32) &&& 31).toUInt32).toInt32) &&& (255 : Int32)).toUInt32.toUInt16.toUInt32.toInt32)), .val (.ref ky), .val (.int (q0.toInt8.toInt32)), .val (.int (q1.toInt8.toInt32)), .val (.int (q2.toInt8.toInt32)), .unset, .unset, .unset, .unset, .unset] [(.ref b301)])) t → Steps p.tables e below (s₁.setTop (entryFrame m #[(.int kc), (.int lens), (.int q0), (.int q1), (.int q2)] maxLocals)) t := fun t kt => S300 t (st301 _ kt)
      have Sf_b301 : Safe Z own_EL vm2 h301 b301 := Safe.ext E301 CRj2.1 (Safe.new (Nat.le_of_eq g301.symm))
      have CR303 := CRj2.trans (CHr.ext E301 CRj2.1)
      have g_b301 : n0 ≤ b301 := Nat.le_trans (Nat.le_trans Z0 Kj2.1) (Nat.le_of_eq g301.symm)
      have sz_b301 : h0.size ≤ b301 := Nat.le_trans Kj2.1 (Nat.le_of_eq g301.symm)
      have ne_ky_b301 : ky ≠ b301 := Nat.ne_of_lt (Nat.lt_of_lt_of_le Fj2_0.lt (Nat.le_of_eq g301.symm))
      have F304 := Fj2_0.ext E301
      have K305 : Keep h0 h301 [] := Kj2.ext E301
      have V306 : Arv Z h301 b301 k301 .byte (1 : Int32) [(.int (0 : Int32))] (.int (0 : Int32)) := (Arv.new A301 (by decide)).pad (pad_rep [] (.int (0 : Int32)) 1)
      have S307 : ∀ t, Steps p.tables e below (T301.setTop (mkF m 185 #[.val (.int kc), .val (.int lens), .val (.int q0), .val (.int q1), .val (.int q2), .val (.int (lens &&& (3 : Int32))), .val (.int (((lens.toUInt32 >>> ((2 : Int32) &&& 31).toUInt32).toInt32) &&& (3 : Int32))), .val (.int ((kc &&& (255 : Int32)).toUInt32.toUInt16.toUInt32.toInt32)), .val (.int ((((kc.toUInt32 >>> ((8 : Int32) &&& 31).toUInt32).toInt32) &&& (255 : Int32)).toUInt32.toUInt16.toUInt32.toInt32)), .val (.int ((((kc.toUInt32 >>> ((16 : Int32) &&& 31).toUInt32).toInt32) &&& (255 : Int32)).toUInt32.toUInt16.toUInt32.toInt32)), .val (.ref ky), .val (.int (q0.toInt8.toInt32)), .val (.int (q1.toInt8.toInt32)), .val (.int (q2.toInt8.toInt32)), .unset, .unset, .unset, .unset, .unset] [(.int (q0.toInt8.toInt32)), (.int (0 : Int32)), (.ref b301), (.ref b301)])) t → Steps p.tables e below (s₁.setTop (entryFrame m #[(.int kc), (.int lens), (.int q0), (.int q1), (.int q2)] maxLocals)) t := fun t kt => by
        refine S302 t ?_
        show Steps p.tables e below (T301.setTop (mkF m 181 #[.val (.int kc), .val (.int lens), .val (.int q0), .val (.int q1), .val (.int q2), .val (.int (lens &&& (3 : Int32))), .val (.int (((lens.toUInt32 >>> ((2 : Int32) &&& 31).toUInt32).toInt32) &&& (3 : Int32))), .val (.int ((kc &&& (255 : Int32)).toUInt32.toUInt16.toUInt32.toInt32)), .val (.int ((((kc.toUInt32 >>> ((8 : Int32) &&& 31).toUInt32).toInt32) &&& (255 : Int32)).toUInt32.toUInt16.toUInt32.toInt32)), .val (.int ((((kc.toUInt32 >>> ((16 : Int32) &&& 31).toUInt32).toInt32) &&& (255 : Int32)).toUInt32.toUInt16.toUInt32.toInt32)), .val (.ref ky), .val (.int (q0.toInt8.toInt32)), .val (.int (q1.toInt8.toInt32)), .val (.int (q2.toInt8.toInt32)), .unset, .unset, .unset, .unset, .unset] [(.ref b301)])) t
        refine XS.dup X301.here hx rfl (hb hby at_181) rfl rfl ?_
        refine XS.iconst X301.here hx rfl (hb hby at_182) ?_
        refine XS.iload X301.here hx rfl (hb hby at_183) rfl ?_
        exact kt
      obtain ⟨cl308, Ar308, q308, Sz308, Nn308, Hh308, Gg308⟩ := id V306
      have hin308 : ¬ ((0 : Int32) < 0 ∨ cl308.slots.size ≤ ((0 : Int32)).toNatClampNeg) := inb_of Sz308 ⟨by decide, by decide⟩
      obtain ⟨T309, h309, X309, e309, W309, st309⟩ := stB X301 hx hZ2 e301 Ar308 (j := (0 : Int32)) hin308 (g := (mkF m 185 #[.val (.int kc), .val (.int lens), .val (.int q0), .val (.int q1), .val (.int q2), .val (.int (lens &&& (3 : Int32))), .val (.int (((lens.toUInt32 >>> ((2 : Int32) &&& 31).toUInt32).toInt32) &&& (3 : Int32))), .val (.int ((kc &&& (255 : Int32)).toUInt32.toUInt16.toUInt32.toInt32)), .val (.int ((((kc.toUInt32 >>> ((8 : Int32) &&& 31).toUInt32).toInt32) &&& (255 : Int32)).toUInt32.toUInt16.toUInt32.toInt32)), .val (.int ((((kc.toUInt32 >>> ((16 : Int32) &&& 31).toUInt32).toInt32) &&& (255 : Int32)).toUInt32.toUInt16.toUInt32.toInt32)), .val (.ref ky), .val (.int (q0.toInt8.toInt32)), .val (.int (q1.toInt8.toInt32)), .val (.int (q2.toInt8.toInt32)), .unset, .unset, .unset, .unset, .unset] [(.int (q0.toInt8.toInt32)), (.int (0 : Int32)), (.ref b301), (.ref b301)])) rfl rfl (hb hby at_185)
      have S310 : ∀ t, Steps p.tables e below (T309.setTop (mkF m 186 #[.val (.int kc), .val (.int lens), .val (.int q0), .val (.int q1), .val (.int q2), .val (.int (lens &&& (3 : Int32))), .val (.int (((lens.toUInt32 >>> ((2 : Int32) &&& 31).toUInt32).toInt32) &&& (3 : Int32))), .val (.int ((kc &&& (255 : Int32)).toUInt32.toUInt16.toUInt32.toInt32)), .val (.int ((((kc.toUInt32 >>> ((8 : Int32) &&& 31).toUInt32).toInt32) &&& (255 : Int32)).toUInt32.toUInt16.toUInt32.toInt32)), .val (.int ((((kc.toUInt32 >>> ((16 : Int32) &&& 31).toUInt32).toInt32) &&& (255 : Int32)).toUInt32.toUInt16.toUInt32.toInt32)), .val (.ref ky), .val (.int (q0.toInt8.toInt32)), .val (.int (q1.toInt8.toInt32)), .val (.int (q2.toInt8.toInt32)), .unset, .unset, .unset, .unset, .unset] [(.ref b301)])) t → Steps p.tables e below (s₁.setTop (entryFrame m #[(.int kc), (.int lens), (.int q0), (.int q1), (.int q2)] maxLocals)) t := fun t kt => S307 t (st309 _ kt)
      have V311 := Arv.set Ar308 q308 Sz308 Nn308 Hh308 Gg308 (fits_nar_byte _) W309 0 rfl (Nat.le_of_ble_eq_true rfl)
      have Sf312 := Safe.wr W309 Sf_b301 CR303.1 Sf_b301
      have CR313 := CR303.trans (CHr.wr W309 Sf_b301 CR303.1)
      have F314 := F304.wr W309
      have F315 := AE301.wr W309
      have N316 := Fr.snoc X309 Nj2 g_b301
      have K317 : Keep h0 h309 [] := K305.wr W309 (Or.inr sz_b301)
      have S320 : ∀ t, Steps p.tables e below (T309.setTop (mkF m 239 #[.val (.int kc), .val (.int lens), .val (.int q0), .val (.int q1), .val (.int q2), .val (.int (lens &&& (3 : Int32))), .val (.int (((lens.toUInt32 >>> ((2 : Int32) &&& 31).toUInt32).toInt32) &&& (3 : Int32))), .val (.int ((kc &&& (255 : Int32)).toUInt32.toUInt16.toUInt32.toInt32)), .val (.int ((((kc.toUInt32 >>> ((8 : Int32) &&& 31).toUInt32).toInt32) &&& (255 : Int32)).toUInt32.toUInt16.toUInt32.toInt32)), .val (.int ((((kc.toUInt32 >>> ((16 : Int32) &&& 31).toUInt32).toInt32) &&& (255 : Int32)).toUInt32.toUInt16.toUInt32.toInt32)), .val (.ref ky), .val (.int (q0.toInt8.toInt32)), .val (.int (q1.toInt8.toInt32)), .val (.int (q2.toInt8.toInt32)), .val (.ref b301), .unset, .unset, .unset, .unset] [(.ref b301), (.ref ky)])) t → Steps p.tables e below (s₁.setTop (entryFrame m #[(.int kc), (.int lens), (.int q0), (.int q1), (.int q2)] maxLocals)) t := fun t kt => by
        refine S310 t ?_
        show Steps p.tables e below (T309.setTop (mkF m 186 #[.val (.int kc), .val (.int lens), .val (.int q0), .val (.int q1), .val (.int q2), .val (.int (lens &&& (3 : Int32))), .val (.int (((lens.toUInt32 >>> ((2 : Int32) &&& 31).toUInt32).toInt32) &&& (3 : Int32))), .val (.int ((kc &&& (255 : Int32)).toUInt32.toUInt16.toUInt32.toInt32)), .val (.int ((((kc.toUInt32 >>> ((8 : Int32) &&& 31).toUInt32).toInt32) &&& (255 : Int32)).toUInt32.toUInt16.toUInt32.toInt32)), .val (.int ((((kc.toUInt32 >>> ((16 : Int32) &&& 31).toUInt32).toInt32) &&& (255 : Int32)).toUInt32.toUInt16.toUInt32.toInt32)), .val (.ref ky), .val (.int (q0.toInt8.toInt32)), .val (.int (q1.toInt8.toInt32)), .val (.int (q2.toInt8.toInt32)), .unset, .unset, .unset, .unset, .unset] [(.ref b301)])) t
        refine XS.astore X309.here hx rfl (hb hby at_186) rfl rfl (l' := #[.val (.int kc), .val (.int lens), .val (.int q0), .val (.int q1), .val (.int q2), .val (.int (lens &&& (3 : Int32))), .val (.int (((lens.toUInt32 >>> ((2 : Int32) &&& 31).toUInt32).toInt32) &&& (3 : Int32))), .val (.int ((kc &&& (255 : Int32)).toUInt32.toUInt16.toUInt32.toInt32)), .val (.int ((((kc.toUInt32 >>> ((8 : Int32) &&& 31).toUInt32).toInt32) &&& (255 : Int32)).toUInt32.toUInt16.toUInt32.toInt32)), .val (.int ((((kc.toUInt32 >>> ((16 : Int32) &&& 31).toUInt32).toInt32) &&& (255 : Int32)).toUInt32.toUInt16.toUInt32.toInt32)), .val (.ref ky), .val (.int (q0.toInt8.toInt32)), .val (.int (q1.toInt8.toInt32)), .val (.int (q2.toInt8.toInt32)), .val (.ref b301), .unset, .unset, .unset, .unset]) rfl ?_
        refine XS.goto X309.here hx rfl (pc0 := 188) (pc' := 235) rfl (hb hby at_188) (by decide) (by decide) ?_
        refine XS.aload X309.here hx rfl (hb hby at_235) rfl rfl ?_
        refine XS.aload X309.here hx rfl (hb hby at_237) rfl rfl ?_
        exact kt
      obtain ⟨_, _, ⟨T321, L321, k321, n321⟩, -, X321, ⟨Lc321, hQ321, l321, y321, z321⟩, st321⟩ := Jvm.LawKit.callS X309 hx (y := (⟨"com/example/nestwarden/nestwarden/store/Journal$Change", "keep", "(Ljava/lang/String;[B)Lcom/example/nestwarden/nestwarden/store/Journal$Change;"⟩ : MethodName)) ho2 (mvT hZ2 (hw _ (List.mem_of_getElem? (i := 30) rfl))) (mvT hZ2 (hw _ (List.mem_of_getElem? (i := 31) rfl))) (mvT hZ2 (hw _ (List.mem_of_getElem? (i := 32) rfl))) (mvT hZ2 (hw _ (List.mem_of_getElem? (i := 33) rfl))) (by decide) (backOf (W := 0) (own_rm7n1 l Z a0 hw [] (ky) (b301) ((nar .byte (q0.toInt8.toInt32))) (k301) h309 n0 (Nat.le_trans Z0 K317.1) V311 F315) hZ2 (hw _ (List.mem_of_getElem? (i := 33) rfl)) (hw _ (List.mem_of_getElem? (i := 32) rfl)) (by decide) (by decide)) (g := (mkF m 239 #[.val (.int kc), .val (.int lens), .val (.int q0), .val (.int q1), .val (.int q2), .val (.int (lens &&& (3 : Int32))), .val (.int (((lens.toUInt32 >>> ((2 : Int32) &&& 31).toUInt32).toInt32) &&& (3 : Int32))), .val (.int ((kc &&& (255 : Int32)).toUInt32.toUInt16.toUInt32.toInt32)), .val (.int ((((kc.toUInt32 >>> ((8 : Int32) &&& 31).toUInt32).toInt32) &&& (255 : Int32)).toUInt32.toUInt16.toUInt32.toInt32)), .val (.int ((((kc.toUInt32 >>> ((16 : Int32) &&& 31).toUInt32).toInt32) &&& (255 : Int32)).toUInt32.toUInt16.toUInt32.toInt32)), .val (.ref ky), .val (.int (q0.toInt8.toInt32)), .val (.int (q1.toInt8.toInt32)), .val (.int (q2.toInt8.toInt32)), .val (.ref b301), .unset, .unset, .unset, .unset] [(.ref b301), (.ref ky)])) rfl (by rw [hml]; rfl) (argsL := [(.ref ky), (.ref b301)]) (rest := []) (lenOf own_pd7 rfl) rfl (by show 2 * 0 + _ ≤ _; exact Nat.le_of_eq rfl) (hb hby at_239) (fun _ _ => ⟨rfl, e309, (by decide : 9 + 2 ≤ _), (by decide : 65 + 3 ≤ _)⟩)
      dsimp only [Pt.U, Pt.locs, Pt.cells, Pt.slots] at X321 l321 y321 z321 st321 hQ321
      subst l321 y321 z321
      obtain ⟨r318, tb318, rfl, Nq321, gt318, sz318, Kc318, Ec318, Fk318, Fr318, Va318⟩ := hQ321
      have N322 := Fr.app N316 Nq321
      have S323 : ∀ t, Steps p.tables e below (T321.setTop (mkF m 242 #[.val (.int kc), .val (.int lens), .val (.int q0), .val (.int q1), .val (.int q2), .val (.int (lens &&& (3 : Int32))), .val (.int (((lens.toUInt32 >>> ((2 : Int32) &&& 31).toUInt32).toInt32) &&& (3 : Int32))), .val (.int ((kc &&& (255 : Int32)).toUInt32.toUInt16.toUInt32.toInt32)), .val (.int ((((kc.toUInt32 >>> ((8 : Int32) &&& 31).toUInt32).toInt32) &&& (255 : Int32)).toUInt32.toUInt16.toUInt32.toInt32)), .val (.int ((((kc.toUInt32 >>> ((16 : Int32) &&& 31).toUInt32).toInt32) &&& (255 : Int32)).toUInt32.toUInt16.toUInt32.toInt32)), .val (.ref ky), .val (.int (q0.toInt8.toInt32)), .val (.int (q1.toInt8.toInt32)), .val (.int (q2.toInt8.toInt32)), .val (.ref b301), .unset, .unset, .unset, .unset] [(.ref r318)])) t → Steps p.tables e below (s₁.setTop (entryFrame m #[(.int kc), (.int lens), (.int q0), (.int q1), (.int q2)] maxLocals)) t := fun t kt => S320 t (st321 _ kt)
      have Sf324 := Safe.keep Kc318 all0 CR313.1 Sf312
      have CR325 := CR313.trans (CHr.keep Kc318 all0 CR313.1)
      have F326 := F314.keep Kc318
      have F327 := F315.keep Kc318
      have F328 := V311.keep Kc318 nin0
      have K329 : Keep h0 T321.heap [] := K317.trans Kc318 all0
      have ne_ky_tb318 : ky ≠ tb318 := Nat.ne_of_lt (Nat.lt_of_lt_of_le F314.lt sz318)
      have ne_b301_tb318 : b301 ≠ tb318 := Nat.ne_of_lt (Nat.lt_of_lt_of_le F315.lt sz318)
      have S331 : ∀ t, Steps p.tables e below (T321.setTop (mkF m 246 #[.val (.int kc), .val (.int lens), .val (.int q0), .val (.int q1), .val (.int q2), .val (.int (lens &&& (3 : Int32))), .val (.int (((lens.toUInt32 >>> ((2 : Int32) &&& 31).toUInt32).toInt32) &&& (3 : Int32))), .val (.int ((kc &&& (255 : Int32)).toUInt32.toUInt16.toUInt32.toInt32)), .val (.int ((((kc.toUInt32 >>> ((8 : Int32) &&& 31).toUInt32).toInt32) &&& (255 : Int32)).toUInt32.toUInt16.toUInt32.toInt32)), .val (.int ((((kc.toUInt32 >>> ((16 : Int32) &&& 31).toUInt32).toInt32) &&& (255 : Int32)).toUInt32.toUInt16.toUInt32.toInt32)), .val (.ref ky), .val (.int (q0.toInt8.toInt32)), .val (.int (q1.toInt8.toInt32)), .val (.int (q2.toInt8.toInt32)), .val (.ref b301), .val (.ref r318), .unset, .unset, .unset] [(.ref r318)])) t → Steps p.tables e below (s₁.setTop (entryFrame m #[(.int kc), (.int lens), (.int q0), (.int q1), (.int q2)] maxLocals)) t := fun t kt => by
        refine S323 t ?_
        show Steps p.tables e below (T321.setTop (mkF m 242 #[.val (.int kc), .val (.int lens), .val (.int q0), .val (.int q1), .val (.int q2), .val (.int (lens &&& (3 : Int32))), .val (.int (((lens.toUInt32 >>> ((2 : Int32) &&& 31).toUInt32).toInt32) &&& (3 : Int32))), .val (.int ((kc &&& (255 : Int32)).toUInt32.toUInt16.toUInt32.toInt32)), .val (.int ((((kc.toUInt32 >>> ((8 : Int32) &&& 31).toUInt32).toInt32) &&& (255 : Int32)).toUInt32.toUInt16.toUInt32.toInt32)), .val (.int ((((kc.toUInt32 >>> ((16 : Int32) &&& 31).toUInt32).toInt32) &&& (255 : Int32)).toUInt32.toUInt16.toUInt32.toInt32)), .val (.ref ky), .val (.int (q0.toInt8.toInt32)), .val (.int (q1.toInt8.toInt32)), .val (.int (q2.toInt8.toInt32)), .val (.ref b301), .unset, .unset, .unset, .unset] [(.ref r318)])) t
        refine XS.astore X321.here hx rfl (hb hby at_242) rfl rfl (l' := #[.val (.int kc), .val (.int lens), .val (.int q0), .val (.int q1), .val (.int q2), .val (.int (lens &&& (3 : Int32))), .val (.int (((lens.toUInt32 >>> ((2 : Int32) &&& 31).toUInt32).toInt32) &&& (3 : Int32))), .val (.int ((kc &&& (255 : Int32)).toUInt32.toUInt16.toUInt32.toInt32)), .val (.int ((((kc.toUInt32 >>> ((8 : Int32) &&& 31).toUInt32).toInt32) &&& (255 : Int32)).toUInt32.toUInt16.toUInt32.toInt32)), .val (.int ((((kc.toUInt32 >>> ((16 : Int32) &&& 31).toUInt32).toInt32) &&& (255 : Int32)).toUInt32.toUInt16.toUInt32.toInt32)), .val (.ref ky), .val (.int (q0.toInt8.toInt32)), .val (.int (q1.toInt8.toInt32)), .val (.int (q2.toInt8.toInt32)), .val (.ref b301), .val (.ref r318), .unset, .unset, .unset]) rfl ?_
        refine XS.aload X321.here hx rfl (hb hby at_244) rfl rfl ?_
        exact kt
      obtain ⟨cq332, kq332, q332a, q332b, q332c⟩ := isOf hZ2 rfl Ec318
      obtain ⟨_, _, ⟨T332, L332, k332, n332⟩, -, X332, ⟨Lc332, hQ332, l332, y332, z332⟩, st332⟩ := X321.virtualBack hx (y := (⟨"com/example/nestwarden/nestwarden/store/Journal$Change", "key", "()Ljava/lang/String;"⟩ : MethodName)) (z := (⟨"com/example/nestwarden/nestwarden/store/Journal$Change", "key", "()Ljava/lang/String;"⟩ : MethodName)) ho2 (mvT hZ2 (hw _ (List.mem_of_getElem? (i := 58) rfl))) (mvT hZ2 (hw _ (List.mem_of_getElem? (i := 59) rfl))) (notFace_of_selects (args := #[]) (mvT hZ2 (hw _ (List.mem_of_getElem? (i := 61) rfl)))) (mvT hZ2 (hw _ (List.mem_of_getElem? (i := 61) rfl))) (mvT hZ2 (hw _ (List.mem_of_getElem? (i := 60) rfl))) (by decide) (backOf (W := 0) (own_rm10 l Z a0 hw [] (r318) (ky) T321.heap n0 (Nat.le_trans Z0 K329.1) Fk318) hZ2 (hw _ (List.mem_of_getElem? (i := 62) rfl)) (hw _ (List.mem_of_getElem? (i := 32) rfl)) (by decide) (by decide)) q332a q332c (g := (mkF m 246 #[.val (.int kc), .val (.int lens), .val (.int q0), .val (.int q1), .val (.int q2), .val (.int (lens &&& (3 : Int32))), .val (.int (((lens.toUInt32 >>> ((2 : Int32) &&& 31).toUInt32).toInt32) &&& (3 : Int32))), .val (.int ((kc &&& (255 : Int32)).toUInt32.toUInt16.toUInt32.toInt32)), .val (.int ((((kc.toUInt32 >>> ((8 : Int32) &&& 31).toUInt32).toInt32) &&& (255 : Int32)).toUInt32.toUInt16.toUInt32.toInt32)), .val (.int ((((kc.toUInt32 >>> ((16 : Int32) &&& 31).toUInt32).toInt32) &&& (255 : Int32)).toUInt32.toUInt16.toUInt32.toInt32)), .val (.ref ky), .val (.int (q0.toInt8.toInt32)), .val (.int (q1.toInt8.toInt32)), .val (.int (q2.toInt8.toInt32)), .val (.ref b301), .val (.ref r318), .unset, .unset, .unset] [(.ref r318)])) rfl (by rw [hml]; rfl) (Steps.refl _) (argsL := []) (rest := []) (lenOf own_pd8 rfl) rfl (by show 2 * 0 + _ ≤ _; exact Nat.le_of_eq rfl) (hb hby at_246) (fun _ _ => ⟨rfl, rfl, (by decide : 11 + 0 ≤ _), (by decide : 68 + 0 ≤ _)⟩)
      dsimp only [Pt.U, Pt.locs, Pt.cells, Pt.slots] at X332 l332 y332 z332 st332 hQ332
      subst l332 y332 z332
      obtain ⟨rfl, rfl, eq330⟩ := hQ332
      try rw [List.append_nil] at X332
      have S333 : ∀ t, Steps p.tables e below (T332.setTop (mkF m 249 #[.val (.int kc), .val (.int lens), .val (.int q0), .val (.int q1), .val (.int q2), .val (.int (lens &&& (3 : Int32))), .val (.int (((lens.toUInt32 >>> ((2 : Int32) &&& 31).toUInt32).toInt32) &&& (3 : Int32))), .val (.int ((kc &&& (255 : Int32)).toUInt32.toUInt16.toUInt32.toInt32)), .val (.int ((((kc.toUInt32 >>> ((8 : Int32) &&& 31).toUInt32).toInt32) &&& (255 : Int32)).toUInt32.toUInt16.toUInt32.toInt32)), .val (.int ((((kc.toUInt32 >>> ((16 : Int32) &&& 31).toUInt32).toInt32) &&& (255 : Int32)).toUInt32.toUInt16.toUInt32.toInt32)), .val (.ref ky), .val (.int (q0.toInt8.toInt32)), .val (.int (q1.toInt8.toInt32)), .val (.int (q2.toInt8.toInt32)), .val (.ref b301), .val (.ref r318), .unset, .unset, .unset] [(.ref ky)])) t → Steps p.tables e below (s₁.setTop (entryFrame m #[(.int kc), (.int lens), (.int q0), (.int q1), (.int q2)] maxLocals)) t := fun t kt => S331 t (st332.trans kt)
      have S335 : ∀ t, Steps p.tables e below (T332.setTop (mkF m 253 #[.val (.int kc), .val (.int lens), .val (.int q0), .val (.int q1), .val (.int q2), .val (.int (lens &&& (3 : Int32))), .val (.int (((lens.toUInt32 >>> ((2 : Int32) &&& 31).toUInt32).toInt32) &&& (3 : Int32))), .val (.int ((kc &&& (255 : Int32)).toUInt32.toUInt16.toUInt32.toInt32)), .val (.int ((((kc.toUInt32 >>> ((8 : Int32) &&& 31).toUInt32).toInt32) &&& (255 : Int32)).toUInt32.toUInt16.toUInt32.toInt32)), .val (.int ((((kc.toUInt32 >>> ((16 : Int32) &&& 31).toUInt32).toInt32) &&& (255 : Int32)).toUInt32.toUInt16.toUInt32.toInt32)), .val (.ref ky), .val (.int (q0.toInt8.toInt32)), .val (.int (q1.toInt8.toInt32)), .val (.int (q2.toInt8.toInt32)), .val (.ref b301), .val (.ref r318), .val (.ref ky), .unset, .unset] [(.ref r318)])) t → Steps p.tables e below (s₁.setTop (entryFrame m #[(.int kc), (.int lens), (.int q0), (.int q1), (.int q2)] maxLocals)) t := fun t kt => by
        refine S333 t ?_
        show Steps p.tables e below (T332.setTop (mkF m 249 #[.val (.int kc), .val (.int lens), .val (.int q0), .val (.int q1), .val (.int q2), .val (.int (lens &&& (3 : Int32))), .val (.int (((lens.toUInt32 >>> ((2 : Int32) &&& 31).toUInt32).toInt32) &&& (3 : Int32))), .val (.int ((kc &&& (255 : Int32)).toUInt32.toUInt16.toUInt32.toInt32)), .val (.int ((((kc.toUInt32 >>> ((8 : Int32) &&& 31).toUInt32).toInt32) &&& (255 : Int32)).toUInt32.toUInt16.toUInt32.toInt32)), .val (.int ((((kc.toUInt32 >>> ((16 : Int32) &&& 31).toUInt32).toInt32) &&& (255 : Int32)).toUInt32.toUInt16.toUInt32.toInt32)), .val (.ref ky), .val (.int (q0.toInt8.toInt32)), .val (.int (q1.toInt8.toInt32)), .val (.int (q2.toInt8.toInt32)), .val (.ref b301), .val (.ref r318), .unset, .unset, .unset] [(.ref ky)])) t
        refine XS.astore X332.here hx rfl (hb hby at_249) rfl rfl (l' := #[.val (.int kc), .val (.int lens), .val (.int q0), .val (.int q1), .val (.int q2), .val (.int (lens &&& (3 : Int32))), .val (.int (((lens.toUInt32 >>> ((2 : Int32) &&& 31).toUInt32).toInt32) &&& (3 : Int32))), .val (.int ((kc &&& (255 : Int32)).toUInt32.toUInt16.toUInt32.toInt32)), .val (.int ((((kc.toUInt32 >>> ((8 : Int32) &&& 31).toUInt32).toInt32) &&& (255 : Int32)).toUInt32.toUInt16.toUInt32.toInt32)), .val (.int ((((kc.toUInt32 >>> ((16 : Int32) &&& 31).toUInt32).toInt32) &&& (255 : Int32)).toUInt32.toUInt16.toUInt32.toInt32)), .val (.ref ky), .val (.int (q0.toInt8.toInt32)), .val (.int (q1.toInt8.toInt32)), .val (.int (q2.toInt8.toInt32)), .val (.ref b301), .val (.ref r318), .val (.ref ky), .unset, .unset]) rfl ?_
        refine XS.aload X332.here hx rfl (hb hby at_251) rfl rfl ?_
        exact kt
      obtain ⟨cq336, kq336, q336a, q336b, q336c⟩ := isOf hZ2 (eq330.trans rfl) Ec318
      obtain ⟨_, _, ⟨T336, L336, k336, n336⟩, -, X336, ⟨Lc336, hQ336, l336, y336, z336⟩, st336⟩ := X332.virtualBack hx (y := (⟨"com/example/nestwarden/nestwarden/store/Journal$Change", "record", "()[B"⟩ : MethodName)) (z := (⟨"com/example/nestwarden/nestwarden/store/Journal$Change", "record", "()[B"⟩ : MethodName)) ho2 (mvT hZ2 (hw _ (List.mem_of_getElem? (i := 63) rfl))) (mvT hZ2 (hw _ (List.mem_of_getElem? (i := 64) rfl))) (notFace_of_selects (args := #[]) (mvT hZ2 (hw _ (List.mem_of_getElem? (i := 66) rfl)))) (mvT hZ2 (hw _ (List.mem_of_getElem? (i := 66) rfl))) (mvT hZ2 (hw _ (List.mem_of_getElem? (i := 65) rfl))) (by decide) (backOf (W := 0) (own_rm11 l Z a0 hw [] (r318) (tb318) T321.heap n0 (Nat.le_trans Z0 K329.1) Fr318) hZ2 (hw _ (List.mem_of_getElem? (i := 67) rfl)) (hw _ (List.mem_of_getElem? (i := 32) rfl)) (by decide) (by decide)) q336a q336c (g := (mkF m 253 #[.val (.int kc), .val (.int lens), .val (.int q0), .val (.int q1), .val (.int q2), .val (.int (lens &&& (3 : Int32))), .val (.int (((lens.toUInt32 >>> ((2 : Int32) &&& 31).toUInt32).toInt32) &&& (3 : Int32))), .val (.int ((kc &&& (255 : Int32)).toUInt32.toUInt16.toUInt32.toInt32)), .val (.int ((((kc.toUInt32 >>> ((8 : Int32) &&& 31).toUInt32).toInt32) &&& (255 : Int32)).toUInt32.toUInt16.toUInt32.toInt32)), .val (.int ((((kc.toUInt32 >>> ((16 : Int32) &&& 31).toUInt32).toInt32) &&& (255 : Int32)).toUInt32.toUInt16.toUInt32.toInt32)), .val (.ref ky), .val (.int (q0.toInt8.toInt32)), .val (.int (q1.toInt8.toInt32)), .val (.int (q2.toInt8.toInt32)), .val (.ref b301), .val (.ref r318), .val (.ref ky), .unset, .unset] [(.ref r318)])) rfl (by rw [hml]; rfl) (Steps.refl _) (argsL := []) (rest := []) (lenOf own_pd9 rfl) rfl (by show 2 * 0 + _ ≤ _; exact Nat.le_of_eq rfl) (hb hby at_253) (fun _ _ => ⟨rfl, (eq330.trans rfl), (by decide : 11 + 0 ≤ _), (by decide : 68 + 0 ≤ _)⟩)
      dsimp only [Pt.U, Pt.locs, Pt.cells, Pt.slots] at X336 l336 y336 z336 st336 hQ336
      subst l336 y336 z336
      obtain ⟨rfl, rfl, eq334⟩ := hQ336
      try rw [List.append_nil] at X336
      have S337 : ∀ t, Steps p.tables e below (T336.setTop (mkF m 256 #[.val (.int kc), .val (.int lens), .val (.int q0), .val (.int q1), .val (.int q2), .val (.int (lens &&& (3 : Int32))), .val (.int (((lens.toUInt32 >>> ((2 : Int32) &&& 31).toUInt32).toInt32) &&& (3 : Int32))), .val (.int ((kc &&& (255 : Int32)).toUInt32.toUInt16.toUInt32.toInt32)), .val (.int ((((kc.toUInt32 >>> ((8 : Int32) &&& 31).toUInt32).toInt32) &&& (255 : Int32)).toUInt32.toUInt16.toUInt32.toInt32)), .val (.int ((((kc.toUInt32 >>> ((16 : Int32) &&& 31).toUInt32).toInt32) &&& (255 : Int32)).toUInt32.toUInt16.toUInt32.toInt32)), .val (.ref ky), .val (.int (q0.toInt8.toInt32)), .val (.int (q1.toInt8.toInt32)), .val (.int (q2.toInt8.toInt32)), .val (.ref b301), .val (.ref r318), .val (.ref ky), .unset, .unset] [(.ref tb318)])) t → Steps p.tables e below (s₁.setTop (entryFrame m #[(.int kc), (.int lens), (.int q0), (.int q1), (.int q2)] maxLocals)) t := fun t kt => S335 t (st336.trans kt)
      have S338 : ∀ t, Steps p.tables e below (T336.setTop (mkF m 260 #[.val (.int kc), .val (.int lens), .val (.int q0), .val (.int q1), .val (.int q2), .val (.int (lens &&& (3 : Int32))), .val (.int (((lens.toUInt32 >>> ((2 : Int32) &&& 31).toUInt32).toInt32) &&& (3 : Int32))), .val (.int ((kc &&& (255 : Int32)).toUInt32.toUInt16.toUInt32.toInt32)), .val (.int ((((kc.toUInt32 >>> ((8 : Int32) &&& 31).toUInt32).toInt32) &&& (255 : Int32)).toUInt32.toUInt16.toUInt32.toInt32)), .val (.int ((((kc.toUInt32 >>> ((16 : Int32) &&& 31).toUInt32).toInt32) &&& (255 : Int32)).toUInt32.toUInt16.toUInt32.toInt32)), .val (.ref ky), .val (.int (q0.toInt8.toInt32)), .val (.int (q1.toInt8.toInt32)), .val (.int (q2.toInt8.toInt32)), .val (.ref b301), .val (.ref r318), .val (.ref ky), .val (.ref tb318), .unset] [(.ref ky)])) t → Steps p.tables e below (s₁.setTop (entryFrame m #[(.int kc), (.int lens), (.int q0), (.int q1), (.int q2)] maxLocals)) t := fun t kt => by
        refine S337 t ?_
        show Steps p.tables e below (T336.setTop (mkF m 256 #[.val (.int kc), .val (.int lens), .val (.int q0), .val (.int q1), .val (.int q2), .val (.int (lens &&& (3 : Int32))), .val (.int (((lens.toUInt32 >>> ((2 : Int32) &&& 31).toUInt32).toInt32) &&& (3 : Int32))), .val (.int ((kc &&& (255 : Int32)).toUInt32.toUInt16.toUInt32.toInt32)), .val (.int ((((kc.toUInt32 >>> ((8 : Int32) &&& 31).toUInt32).toInt32) &&& (255 : Int32)).toUInt32.toUInt16.toUInt32.toInt32)), .val (.int ((((kc.toUInt32 >>> ((16 : Int32) &&& 31).toUInt32).toInt32) &&& (255 : Int32)).toUInt32.toUInt16.toUInt32.toInt32)), .val (.ref ky), .val (.int (q0.toInt8.toInt32)), .val (.int (q1.toInt8.toInt32)), .val (.int (q2.toInt8.toInt32)), .val (.ref b301), .val (.ref r318), .val (.ref ky), .unset, .unset] [(.ref tb318)])) t
        refine XS.astore X336.here hx rfl (hb hby at_256) rfl rfl (l' := #[.val (.int kc), .val (.int lens), .val (.int q0), .val (.int q1), .val (.int q2), .val (.int (lens &&& (3 : Int32))), .val (.int (((lens.toUInt32 >>> ((2 : Int32) &&& 31).toUInt32).toInt32) &&& (3 : Int32))), .val (.int ((kc &&& (255 : Int32)).toUInt32.toUInt16.toUInt32.toInt32)), .val (.int ((((kc.toUInt32 >>> ((8 : Int32) &&& 31).toUInt32).toInt32) &&& (255 : Int32)).toUInt32.toUInt16.toUInt32.toInt32)), .val (.int ((((kc.toUInt32 >>> ((16 : Int32) &&& 31).toUInt32).toInt32) &&& (255 : Int32)).toUInt32.toUInt16.toUInt32.toInt32)), .val (.ref ky), .val (.int (q0.toInt8.toInt32)), .val (.int (q1.toInt8.toInt32)), .val (.int (q2.toInt8.toInt32)), .val (.ref b301), .val (.ref r318), .val (.ref ky), .val (.ref tb318), .unset]) rfl ?_
        refine XS.aload X336.here hx rfl (hb hby at_258) rfl rfl ?_
        exact kt
      have S340 : ∀ t, Steps p.tables e below (T336.setTop (mkF m 267 #[.val (.int kc), .val (.int lens), .val (.int q0), .val (.int q1), .val (.int q2), .val (.int (lens &&& (3 : Int32))), .val (.int (((lens.toUInt32 >>> ((2 : Int32) &&& 31).toUInt32).toInt32) &&& (3 : Int32))), .val (.int ((kc &&& (255 : Int32)).toUInt32.toUInt16.toUInt32.toInt32)), .val (.int ((((kc.toUInt32 >>> ((8 : Int32) &&& 31).toUInt32).toInt32) &&& (255 : Int32)).toUInt32.toUInt16.toUInt32.toInt32)), .val (.int ((((kc.toUInt32 >>> ((16 : Int32) &&& 31).toUInt32).toInt32) &&& (255 : Int32)).toUInt32.toUInt16.toUInt32.toInt32)), .val (.ref ky), .val (.int (q0.toInt8.toInt32)), .val (.int (q1.toInt8.toInt32)), .val (.int (q2.toInt8.toInt32)), .val (.ref b301), .val (.ref r318), .val (.ref ky), .val (.ref tb318), .unset] [(.ref ky), (.ref ky)])) t → Steps p.tables e below (s₁.setTop (entryFrame m #[(.int kc), (.int lens), (.int q0), (.int q1), (.int q2)] maxLocals)) t := fun t kt => by
        refine S338 t ?_
        show Steps p.tables e below (T336.setTop (mkF m 260 #[.val (.int kc), .val (.int lens), .val (.int q0), .val (.int q1), .val (.int q2), .val (.int (lens &&& (3 : Int32))), .val (.int (((lens.toUInt32 >>> ((2 : Int32) &&& 31).toUInt32).toInt32) &&& (3 : Int32))), .val (.int ((kc &&& (255 : Int32)).toUInt32.toUInt16.toUInt32.toInt32)), .val (.int ((((kc.toUInt32 >>> ((8 : Int32) &&& 31).toUInt32).toInt32) &&& (255 : Int32)).toUInt32.toUInt16.toUInt32.toInt32)), .val (.int ((((kc.toUInt32 >>> ((16 : Int32) &&& 31).toUInt32).toInt32) &&& (255 : Int32)).toUInt32.toUInt16.toUInt32.toInt32)), .val (.ref ky), .val (.int (q0.toInt8.toInt32)), .val (.int (q1.toInt8.toInt32)), .val (.int (q2.toInt8.toInt32)), .val (.ref b301), .val (.ref r318), .val (.ref ky), .val (.ref tb318), .unset] [(.ref ky)])) t
        refine XS.ifnullNo X336.here hx rfl (hb hby at_260) rfl ?_
        refine XS.aload X336.here hx rfl (hb hby at_263) rfl rfl ?_
        refine XS.aload X336.here hx rfl (hb hby at_265) rfl rfl ?_
        exact kt
      obtain ⟨cq341, kq341, q341a, q341b, q341c⟩ := isOf hZ2 eq334 F326
      obtain ⟨_, _, ⟨T341, L341, k341, n341⟩, -, X341, ⟨Lc341, hQ341, l341, y341, z341⟩, st341⟩ := X336.virtualBack hx (y := (⟨"java/lang/String", "equals", "(Ljava/lang/Object;)Z"⟩ : MethodName)) (z := (⟨"java/lang/String", "equals", "(Ljava/lang/Object;)Z"⟩ : MethodName)) ho2 (mvT hZ2 (hw _ (List.mem_of_getElem? (i := 68) rfl))) (mvT hZ2 (hw _ (List.mem_of_getElem? (i := 69) rfl))) (notFace_of_selects (args := #[]) (mvT hZ2 (hw _ (List.mem_of_getElem? (i := 71) rfl)))) (mvT hZ2 (hw _ (List.mem_of_getElem? (i := 71) rfl))) (mvT hZ2 (hw _ (List.mem_of_getElem? (i := 70) rfl))) (by decide) (backOf (W := 0) (own_rm12 l Z a0 hw [] (ky) (ky) T321.heap n0 (Nat.le_trans Z0 K329.1) rfl) hZ2 (hw _ (List.mem_of_getElem? (i := 72) rfl)) (hw _ (List.mem_of_getElem? (i := 2) rfl)) (by decide) (by decide)) q341a q341c (g := (mkF m 267 #[.val (.int kc), .val (.int lens), .val (.int q0), .val (.int q1), .val (.int q2), .val (.int (lens &&& (3 : Int32))), .val (.int (((lens.toUInt32 >>> ((2 : Int32) &&& 31).toUInt32).toInt32) &&& (3 : Int32))), .val (.int ((kc &&& (255 : Int32)).toUInt32.toUInt16.toUInt32.toInt32)), .val (.int ((((kc.toUInt32 >>> ((8 : Int32) &&& 31).toUInt32).toInt32) &&& (255 : Int32)).toUInt32.toUInt16.toUInt32.toInt32)), .val (.int ((((kc.toUInt32 >>> ((16 : Int32) &&& 31).toUInt32).toInt32) &&& (255 : Int32)).toUInt32.toUInt16.toUInt32.toInt32)), .val (.ref ky), .val (.int (q0.toInt8.toInt32)), .val (.int (q1.toInt8.toInt32)), .val (.int (q2.toInt8.toInt32)), .val (.ref b301), .val (.ref r318), .val (.ref ky), .val (.ref tb318), .unset] [(.ref ky), (.ref ky)])) rfl (by rw [hml]; rfl) (Steps.refl _) (argsL := [(.ref ky)]) (rest := []) (lenOf own_pd10 rfl) rfl (by show 2 * 0 + _ ≤ _; exact Nat.le_of_eq rfl) (hb hby at_267) (fun _ _ => ⟨rfl, eq334, (by decide : 11 + 0 ≤ _), (by decide : 68 + 0 ≤ _)⟩)
      dsimp only [Pt.U, Pt.locs, Pt.cells, Pt.slots] at X341 l341 y341 z341 st341 hQ341
      subst l341 y341 z341
      obtain ⟨rfl, rfl, eq339⟩ := hQ341
      try rw [List.append_nil] at X341
      have S342 : ∀ t, Steps p.tables e below (T341.setTop (mkF m 270 #[.val (.int kc), .val (.int lens), .val (.int q0), .val (.int q1), .val (.int q2), .val (.int (lens &&& (3 : Int32))), .val (.int (((lens.toUInt32 >>> ((2 : Int32) &&& 31).toUInt32).toInt32) &&& (3 : Int32))), .val (.int ((kc &&& (255 : Int32)).toUInt32.toUInt16.toUInt32.toInt32)), .val (.int ((((kc.toUInt32 >>> ((8 : Int32) &&& 31).toUInt32).toInt32) &&& (255 : Int32)).toUInt32.toUInt16.toUInt32.toInt32)), .val (.int ((((kc.toUInt32 >>> ((16 : Int32) &&& 31).toUInt32).toInt32) &&& (255 : Int32)).toUInt32.toUInt16.toUInt32.toInt32)), .val (.ref ky), .val (.int (q0.toInt8.toInt32)), .val (.int (q1.toInt8.toInt32)), .val (.int (q2.toInt8.toInt32)), .val (.ref b301), .val (.ref r318), .val (.ref ky), .val (.ref tb318), .unset] [(.int (1 : Int32))])) t → Steps p.tables e below (s₁.setTop (entryFrame m #[(.int kc), (.int lens), (.int q0), (.int q1), (.int q2)] maxLocals)) t := fun t kt => S340 t (st341.trans kt)
      have hc270_343 : ¬ ((1 : Int32) = (0 : Int32)) := by decide
      have S344 : ∀ t, Steps p.tables e below (T341.setTop (mkF m 277 #[.val (.int kc), .val (.int lens), .val (.int q0), .val (.int q1), .val (.int q2), .val (.int (lens &&& (3 : Int32))), .val (.int (((lens.toUInt32 >>> ((2 : Int32) &&& 31).toUInt32).toInt32) &&& (3 : Int32))), .val (.int ((kc &&& (255 : Int32)).toUInt32.toUInt16.toUInt32.toInt32)), .val (.int ((((kc.toUInt32 >>> ((8 : Int32) &&& 31).toUInt32).toInt32) &&& (255 : Int32)).toUInt32.toUInt16.toUInt32.toInt32)), .val (.int ((((kc.toUInt32 >>> ((16 : Int32) &&& 31).toUInt32).toInt32) &&& (255 : Int32)).toUInt32.toUInt16.toUInt32.toInt32)), .val (.ref ky), .val (.int (q0.toInt8.toInt32)), .val (.int (q1.toInt8.toInt32)), .val (.int (q2.toInt8.toInt32)), .val (.ref b301), .val (.ref r318), .val (.ref ky), .val (.ref tb318), .unset] [(.ref tb318)])) t → Steps p.tables e below (s₁.setTop (entryFrame m #[(.int kc), (.int lens), (.int q0), (.int q1), (.int q2)] maxLocals)) t := fun t kt => by
        refine S342 t ?_
        show Steps p.tables e below (T341.setTop (mkF m 270 #[.val (.int kc), .val (.int lens), .val (.int q0), .val (.int q1), .val (.int q2), .val (.int (lens &&& (3 : Int32))), .val (.int (((lens.toUInt32 >>> ((2 : Int32) &&& 31).toUInt32).toInt32) &&& (3 : Int32))), .val (.int ((kc &&& (255 : Int32)).toUInt32.toUInt16.toUInt32.toInt32)), .val (.int ((((kc.toUInt32 >>> ((8 : Int32) &&& 31).toUInt32).toInt32) &&& (255 : Int32)).toUInt32.toUInt16.toUInt32.toInt32)), .val (.int ((((kc.toUInt32 >>> ((16 : Int32) &&& 31).toUInt32).toInt32) &&& (255 : Int32)).toUInt32.toUInt16.toUInt32.toInt32)), .val (.ref ky), .val (.int (q0.toInt8.toInt32)), .val (.int (q1.toInt8.toInt32)), .val (.int (q2.toInt8.toInt32)), .val (.ref b301), .val (.ref r318), .val (.ref ky), .val (.ref tb318), .unset] [(.int (1 : Int32))])) t
        refine XS.ifYes X341.here hx rfl (pc0 := 270) (pc' := 275) rfl (hb hby at_270) rfl ((if0 _ _).trans (feq hc270_343).2) (by decide) (by decide) ?_
        refine XS.aload X341.here hx rfl (hb hby at_275) rfl rfl ?_
        exact kt
      have S345 : ∀ t, Steps p.tables e below (T341.setTop (mkF m 284 #[.val (.int kc), .val (.int lens), .val (.int q0), .val (.int q1), .val (.int q2), .val (.int (lens &&& (3 : Int32))), .val (.int (((lens.toUInt32 >>> ((2 : Int32) &&& 31).toUInt32).toInt32) &&& (3 : Int32))), .val (.int ((kc &&& (255 : Int32)).toUInt32.toUInt16.toUInt32.toInt32)), .val (.int ((((kc.toUInt32 >>> ((8 : Int32) &&& 31).toUInt32).toInt32) &&& (255 : Int32)).toUInt32.toUInt16.toUInt32.toInt32)), .val (.int ((((kc.toUInt32 >>> ((16 : Int32) &&& 31).toUInt32).toInt32) &&& (255 : Int32)).toUInt32.toUInt16.toUInt32.toInt32)), .val (.ref ky), .val (.int (q0.toInt8.toInt32)), .val (.int (q1.toInt8.toInt32)), .val (.int (q2.toInt8.toInt32)), .val (.ref b301), .val (.ref r318), .val (.ref ky), .val (.ref tb318), .unset] [(.ref b301), (.ref tb318)])) t → Steps p.tables e below (s₁.setTop (entryFrame m #[(.int kc), (.int lens), (.int q0), (.int q1), (.int q2)] maxLocals)) t := fun t kt => by
        refine S344 t ?_
        show Steps p.tables e below (T341.setTop (mkF m 277 #[.val (.int kc), .val (.int lens), .val (.int q0), .val (.int q1), .val (.int q2), .val (.int (lens &&& (3 : Int32))), .val (.int (((lens.toUInt32 >>> ((2 : Int32) &&& 31).toUInt32).toInt32) &&& (3 : Int32))), .val (.int ((kc &&& (255 : Int32)).toUInt32.toUInt16.toUInt32.toInt32)), .val (.int ((((kc.toUInt32 >>> ((8 : Int32) &&& 31).toUInt32).toInt32) &&& (255 : Int32)).toUInt32.toUInt16.toUInt32.toInt32)), .val (.int ((((kc.toUInt32 >>> ((16 : Int32) &&& 31).toUInt32).toInt32) &&& (255 : Int32)).toUInt32.toUInt16.toUInt32.toInt32)), .val (.ref ky), .val (.int (q0.toInt8.toInt32)), .val (.int (q1.toInt8.toInt32)), .val (.int (q2.toInt8.toInt32)), .val (.ref b301), .val (.ref r318), .val (.ref ky), .val (.ref tb318), .unset] [(.ref tb318)])) t
        refine XS.ifnullNo X341.here hx rfl (hb hby at_277) rfl ?_
        refine XS.aload X341.here hx rfl (hb hby at_280) rfl rfl ?_
        refine XS.aload X341.here hx rfl (hb hby at_282) rfl rfl ?_
        exact kt
      have hc284_346 : ¬ (tb318 = b301) := (Ne.symm ne_b301_tb318)
      have S347 : ∀ t, Steps p.tables e below (T341.setTop (mkF m 289 #[.val (.int kc), .val (.int lens), .val (.int q0), .val (.int q1), .val (.int q2), .val (.int (lens &&& (3 : Int32))), .val (.int (((lens.toUInt32 >>> ((2 : Int32) &&& 31).toUInt32).toInt32) &&& (3 : Int32))), .val (.int ((kc &&& (255 : Int32)).toUInt32.toUInt16.toUInt32.toInt32)), .val (.int ((((kc.toUInt32 >>> ((8 : Int32) &&& 31).toUInt32).toInt32) &&& (255 : Int32)).toUInt32.toUInt16.toUInt32.toInt32)), .val (.int ((((kc.toUInt32 >>> ((16 : Int32) &&& 31).toUInt32).toInt32) &&& (255 : Int32)).toUInt32.toUInt16.toUInt32.toInt32)), .val (.ref ky), .val (.int (q0.toInt8.toInt32)), .val (.int (q1.toInt8.toInt32)), .val (.int (q2.toInt8.toInt32)), .val (.ref b301), .val (.ref r318), .val (.ref ky), .val (.ref tb318), .unset] [(.ref tb318)])) t → Steps p.tables e below (s₁.setTop (entryFrame m #[(.int kc), (.int lens), (.int q0), (.int q1), (.int q2)] maxLocals)) t := fun t kt => by
        refine S345 t ?_
        show Steps p.tables e below (T341.setTop (mkF m 284 #[.val (.int kc), .val (.int lens), .val (.int q0), .val (.int q1), .val (.int q2), .val (.int (lens &&& (3 : Int32))), .val (.int (((lens.toUInt32 >>> ((2 : Int32) &&& 31).toUInt32).toInt32) &&& (3 : Int32))), .val (.int ((kc &&& (255 : Int32)).toUInt32.toUInt16.toUInt32.toInt32)), .val (.int ((((kc.toUInt32 >>> ((8 : Int32) &&& 31).toUInt32).toInt32) &&& (255 : Int32)).toUInt32.toUInt16.toUInt32.toInt32)), .val (.int ((((kc.toUInt32 >>> ((16 : Int32) &&& 31).toUInt32).toInt32) &&& (255 : Int32)).toUInt32.toUInt16.toUInt32.toInt32)), .val (.ref ky), .val (.int (q0.toInt8.toInt32)), .val (.int (q1.toInt8.toInt32)), .val (.int (q2.toInt8.toInt32)), .val (.ref b301), .val (.ref r318), .val (.ref ky), .val (.ref tb318), .unset] [(.ref b301), (.ref tb318)])) t
        refine Jvm.RoadKit.acmp (g := (mkF m 284 #[.val (.int kc), .val (.int lens), .val (.int q0), .val (.int q1), .val (.int q2), .val (.int (lens &&& (3 : Int32))), .val (.int (((lens.toUInt32 >>> ((2 : Int32) &&& 31).toUInt32).toInt32) &&& (3 : Int32))), .val (.int ((kc &&& (255 : Int32)).toUInt32.toUInt16.toUInt32.toInt32)), .val (.int ((((kc.toUInt32 >>> ((8 : Int32) &&& 31).toUInt32).toInt32) &&& (255 : Int32)).toUInt32.toUInt16.toUInt32.toInt32)), .val (.int ((((kc.toUInt32 >>> ((16 : Int32) &&& 31).toUInt32).toInt32) &&& (255 : Int32)).toUInt32.toUInt16.toUInt32.toInt32)), .val (.ref ky), .val (.int (q0.toInt8.toInt32)), .val (.int (q1.toInt8.toInt32)), .val (.int (q2.toInt8.toInt32)), .val (.ref b301), .val (.ref r318), .val (.ref ky), .val (.ref tb318), .unset] [(.ref b301), (.ref tb318)])) X341 hx rfl rfl rfl (pc0 := 284) (pc' := 287) (same := false) rfl (hb hby at_284) rfl (decide_eq_false fun q => hc284_346 (Value.ref.inj q)) (by decide) (by decide) ?_
        show Steps p.tables e below (T341.setTop (mkF m 287 #[.val (.int kc), .val (.int lens), .val (.int q0), .val (.int q1), .val (.int q2), .val (.int (lens &&& (3 : Int32))), .val (.int (((lens.toUInt32 >>> ((2 : Int32) &&& 31).toUInt32).toInt32) &&& (3 : Int32))), .val (.int ((kc &&& (255 : Int32)).toUInt32.toUInt16.toUInt32.toInt32)), .val (.int ((((kc.toUInt32 >>> ((8 : Int32) &&& 31).toUInt32).toInt32) &&& (255 : Int32)).toUInt32.toUInt16.toUInt32.toInt32)), .val (.int ((((kc.toUInt32 >>> ((16 : Int32) &&& 31).toUInt32).toInt32) &&& (255 : Int32)).toUInt32.toUInt16.toUInt32.toInt32)), .val (.ref ky), .val (.int (q0.toInt8.toInt32)), .val (.int (q1.toInt8.toInt32)), .val (.int (q2.toInt8.toInt32)), .val (.ref b301), .val (.ref r318), .val (.ref ky), .val (.ref tb318), .unset] [])) t
        refine XS.aload X341.here hx rfl (hb hby at_287) rfl rfl ?_
        exact kt
      obtain ⟨cl348, Ar348, -, Sz348, Nn348, -, -⟩ := id Va318
      have S349 : ∀ t, Steps p.tables e below (T341.setTop (mkF m 292 #[.val (.int kc), .val (.int lens), .val (.int q0), .val (.int q1), .val (.int q2), .val (.int (lens &&& (3 : Int32))), .val (.int (((lens.toUInt32 >>> ((2 : Int32) &&& 31).toUInt32).toInt32) &&& (3 : Int32))), .val (.int ((kc &&& (255 : Int32)).toUInt32.toUInt16.toUInt32.toInt32)), .val (.int ((((kc.toUInt32 >>> ((8 : Int32) &&& 31).toUInt32).toInt32) &&& (255 : Int32)).toUInt32.toUInt16.toUInt32.toInt32)), .val (.int ((((kc.toUInt32 >>> ((16 : Int32) &&& 31).toUInt32).toInt32) &&& (255 : Int32)).toUInt32.toUInt16.toUInt32.toInt32)), .val (.ref ky), .val (.int (q0.toInt8.toInt32)), .val (.int (q1.toInt8.toInt32)), .val (.int (q2.toInt8.toInt32)), .val (.ref b301), .val (.ref r318), .val (.ref ky), .val (.ref tb318), .unset] [(.int (((lens.toUInt32 >>> ((2 : Int32) &&& 31).toUInt32).toInt32) &&& (3 : Int32))), (.int (1 : Int32))])) t → Steps p.tables e below (s₁.setTop (entryFrame m #[(.int kc), (.int lens), (.int q0), (.int q1), (.int q2)] maxLocals)) t := fun t kt => by
        refine S347 t ?_
        show Steps p.tables e below (T341.setTop (mkF m 289 #[.val (.int kc), .val (.int lens), .val (.int q0), .val (.int q1), .val (.int q2), .val (.int (lens &&& (3 : Int32))), .val (.int (((lens.toUInt32 >>> ((2 : Int32) &&& 31).toUInt32).toInt32) &&& (3 : Int32))), .val (.int ((kc &&& (255 : Int32)).toUInt32.toUInt16.toUInt32.toInt32)), .val (.int ((((kc.toUInt32 >>> ((8 : Int32) &&& 31).toUInt32).toInt32) &&& (255 : Int32)).toUInt32.toUInt16.toUInt32.toInt32)), .val (.int ((((kc.toUInt32 >>> ((16 : Int32) &&& 31).toUInt32).toInt32) &&& (255 : Int32)).toUInt32.toUInt16.toUInt32.toInt32)), .val (.ref ky), .val (.int (q0.toInt8.toInt32)), .val (.int (q1.toInt8.toInt32)), .val (.int (q2.toInt8.toInt32)), .val (.ref b301), .val (.ref r318), .val (.ref ky), .val (.ref tb318), .unset] [(.ref tb318)])) t
        refine X341.arraylength hx (by rw [eq339]; exact Ar348.1) (State.isArrayOf_alike hZ2.alike Ar348.2.1) (g := (mkF m 289 #[.val (.int kc), .val (.int lens), .val (.int q0), .val (.int q1), .val (.int q2), .val (.int (lens &&& (3 : Int32))), .val (.int (((lens.toUInt32 >>> ((2 : Int32) &&& 31).toUInt32).toInt32) &&& (3 : Int32))), .val (.int ((kc &&& (255 : Int32)).toUInt32.toUInt16.toUInt32.toInt32)), .val (.int ((((kc.toUInt32 >>> ((8 : Int32) &&& 31).toUInt32).toInt32) &&& (255 : Int32)).toUInt32.toUInt16.toUInt32.toInt32)), .val (.int ((((kc.toUInt32 >>> ((16 : Int32) &&& 31).toUInt32).toInt32) &&& (255 : Int32)).toUInt32.toUInt16.toUInt32.toInt32)), .val (.ref ky), .val (.int (q0.toInt8.toInt32)), .val (.int (q1.toInt8.toInt32)), .val (.int (q2.toInt8.toInt32)), .val (.ref b301), .val (.ref r318), .val (.ref ky), .val (.ref tb318), .unset] [(.ref tb318)])) rfl rfl (hb hby at_289) _ ?_
        rw [len_of Sz348 Nn348]
        show Steps p.tables e below (T341.setTop (mkF m 290 #[.val (.int kc), .val (.int lens), .val (.int q0), .val (.int q1), .val (.int q2), .val (.int (lens &&& (3 : Int32))), .val (.int (((lens.toUInt32 >>> ((2 : Int32) &&& 31).toUInt32).toInt32) &&& (3 : Int32))), .val (.int ((kc &&& (255 : Int32)).toUInt32.toUInt16.toUInt32.toInt32)), .val (.int ((((kc.toUInt32 >>> ((8 : Int32) &&& 31).toUInt32).toInt32) &&& (255 : Int32)).toUInt32.toUInt16.toUInt32.toInt32)), .val (.int ((((kc.toUInt32 >>> ((16 : Int32) &&& 31).toUInt32).toInt32) &&& (255 : Int32)).toUInt32.toUInt16.toUInt32.toInt32)), .val (.ref ky), .val (.int (q0.toInt8.toInt32)), .val (.int (q1.toInt8.toInt32)), .val (.int (q2.toInt8.toInt32)), .val (.ref b301), .val (.ref r318), .val (.ref ky), .val (.ref tb318), .unset] [(.int (1 : Int32))])) t
        refine XS.iload X341.here hx rfl (hb hby at_290) rfl ?_
        exact kt
      have hc292_350 : (1 : Int32) = (((lens.toUInt32 >>> ((2 : Int32) &&& 31).toUInt32).toInt32) &&& (3 : Int32)) := hc175.symm
      have S352 : ∀ t, Steps p.tables e below (T341.setTop (mkF m 305 #[.val (.int kc), .val (.int lens), .val (.int q0), .val (.int q1), .val (.int q2), .val (.int (lens &&& (3 : Int32))), .val (.int (((lens.toUInt32 >>> ((2 : Int32) &&& 31).toUInt32).toInt32) &&& (3 : Int32))), .val (.int ((kc &&& (255 : Int32)).toUInt32.toUInt16.toUInt32.toInt32)), .val (.int ((((kc.toUInt32 >>> ((8 : Int32) &&& 31).toUInt32).toInt32) &&& (255 : Int32)).toUInt32.toUInt16.toUInt32.toInt32)), .val (.int ((((kc.toUInt32 >>> ((16 : Int32) &&& 31).toUInt32).toInt32) &&& (255 : Int32)).toUInt32.toUInt16.toUInt32.toInt32)), .val (.ref ky), .val (.int (q0.toInt8.toInt32)), .val (.int (q1.toInt8.toInt32)), .val (.int (q2.toInt8.toInt32)), .val (.ref b301), .val (.ref r318), .val (.ref ky), .val (.ref tb318), .unset] [(.int (q2.toInt8.toInt32)), (.int (q1.toInt8.toInt32)), (.int (q0.toInt8.toInt32)), (.ref tb318)])) t → Steps p.tables e below (s₁.setTop (entryFrame m #[(.int kc), (.int lens), (.int q0), (.int q1), (.int q2)] maxLocals)) t := fun t kt => by
        refine S349 t ?_
        show Steps p.tables e below (T341.setTop (mkF m 292 #[.val (.int kc), .val (.int lens), .val (.int q0), .val (.int q1), .val (.int q2), .val (.int (lens &&& (3 : Int32))), .val (.int (((lens.toUInt32 >>> ((2 : Int32) &&& 31).toUInt32).toInt32) &&& (3 : Int32))), .val (.int ((kc &&& (255 : Int32)).toUInt32.toUInt16.toUInt32.toInt32)), .val (.int ((((kc.toUInt32 >>> ((8 : Int32) &&& 31).toUInt32).toInt32) &&& (255 : Int32)).toUInt32.toUInt16.toUInt32.toInt32)), .val (.int ((((kc.toUInt32 >>> ((16 : Int32) &&& 31).toUInt32).toInt32) &&& (255 : Int32)).toUInt32.toUInt16.toUInt32.toInt32)), .val (.ref ky), .val (.int (q0.toInt8.toInt32)), .val (.int (q1.toInt8.toInt32)), .val (.int (q2.toInt8.toInt32)), .val (.ref b301), .val (.ref r318), .val (.ref ky), .val (.ref tb318), .unset] [(.int (((lens.toUInt32 >>> ((2 : Int32) &&& 31).toUInt32).toInt32) &&& (3 : Int32))), (.int (1 : Int32))])) t
        refine XS.icmpYes X341.here hx rfl (pc0 := 292) (pc' := 297) rfl (hb hby at_292) rfl (teq hc292_350).1 (by decide) (by decide) ?_
        refine XS.aload X341.here hx rfl (hb hby at_297) rfl rfl ?_
        refine XS.iload X341.here hx rfl (hb hby at_299) rfl ?_
        refine XS.iload X341.here hx rfl (hb hby at_301) rfl ?_
        refine XS.iload X341.here hx rfl (hb hby at_303) rfl ?_
        exact kt
      obtain ⟨_, _, ⟨T353, L353, k353, n353⟩, -, X353, ⟨Lc353, hQ353, l353, y353, z353⟩, st353⟩ := Jvm.LawKit.callS X341 hx (y := (⟨"com/example/nestwarden/nestwarden/store/ChangeKeepPinLaw", "same", "([BBBB)Z"⟩ : MethodName)) ho2 (mvT hZ2 (hw _ (List.mem_of_getElem? (i := 73) rfl))) (mvT hZ2 (hw _ (List.mem_of_getElem? (i := 74) rfl))) (mvT hZ2 (hw _ (List.mem_of_getElem? (i := 75) rfl))) (mvT hZ2 (hw _ (List.mem_of_getElem? (i := 76) rfl))) (by decide) (backOf (W := 0) (own_rm13n1 l Z a0 hw [] (tb318) ((q0.toInt8.toInt32)) ((q1.toInt8.toInt32)) ((q2.toInt8.toInt32)) ((nar .byte (q0.toInt8.toInt32))) (k301) T321.heap n0 (Nat.le_trans Z0 K329.1) Va318 (own_lolo _)) hZ2 (hw _ (List.mem_of_getElem? (i := 76) rfl)) (hw _ (List.mem_of_getElem? (i := 75) rfl)) (by decide) (by decide)) (g := (mkF m 305 #[.val (.int kc), .val (.int lens), .val (.int q0), .val (.int q1), .val (.int q2), .val (.int (lens &&& (3 : Int32))), .val (.int (((lens.toUInt32 >>> ((2 : Int32) &&& 31).toUInt32).toInt32) &&& (3 : Int32))), .val (.int ((kc &&& (255 : Int32)).toUInt32.toUInt16.toUInt32.toInt32)), .val (.int ((((kc.toUInt32 >>> ((8 : Int32) &&& 31).toUInt32).toInt32) &&& (255 : Int32)).toUInt32.toUInt16.toUInt32.toInt32)), .val (.int ((((kc.toUInt32 >>> ((16 : Int32) &&& 31).toUInt32).toInt32) &&& (255 : Int32)).toUInt32.toUInt16.toUInt32.toInt32)), .val (.ref ky), .val (.int (q0.toInt8.toInt32)), .val (.int (q1.toInt8.toInt32)), .val (.int (q2.toInt8.toInt32)), .val (.ref b301), .val (.ref r318), .val (.ref ky), .val (.ref tb318), .unset] [(.int (q2.toInt8.toInt32)), (.int (q1.toInt8.toInt32)), (.int (q0.toInt8.toInt32)), (.ref tb318)])) rfl (by rw [hml]; rfl) (argsL := [(.ref tb318), (.int (q0.toInt8.toInt32)), (.int (q1.toInt8.toInt32)), (.int (q2.toInt8.toInt32))]) (rest := []) (lenOf own_pd11 rfl) rfl (by show 2 * 0 + _ ≤ _; exact Nat.le_of_eq rfl) (hb hby at_305) (fun _ _ => ⟨rfl, eq339, (by decide : 11 + 0 ≤ _), (by decide : 68 + 0 ≤ _)⟩)
      dsimp only [Pt.U, Pt.locs, Pt.cells, Pt.slots] at X353 l353 y353 z353 st353 hQ353
      subst l353 y353 z353
      obtain ⟨rfl, rfl, eq351⟩ := hQ353
      try rw [List.append_nil] at X353
      have S354 : ∀ t, Steps p.tables e below (T353.setTop (mkF m 308 #[.val (.int kc), .val (.int lens), .val (.int q0), .val (.int q1), .val (.int q2), .val (.int (lens &&& (3 : Int32))), .val (.int (((lens.toUInt32 >>> ((2 : Int32) &&& 31).toUInt32).toInt32) &&& (3 : Int32))), .val (.int ((kc &&& (255 : Int32)).toUInt32.toUInt16.toUInt32.toInt32)), .val (.int ((((kc.toUInt32 >>> ((8 : Int32) &&& 31).toUInt32).toInt32) &&& (255 : Int32)).toUInt32.toUInt16.toUInt32.toInt32)), .val (.int ((((kc.toUInt32 >>> ((16 : Int32) &&& 31).toUInt32).toInt32) &&& (255 : Int32)).toUInt32.toUInt16.toUInt32.toInt32)), .val (.ref ky), .val (.int (q0.toInt8.toInt32)), .val (.int (q1.toInt8.toInt32)), .val (.int (q2.toInt8.toInt32)), .val (.ref b301), .val (.ref r318), .val (.ref ky), .val (.ref tb318), .unset] [(.int (1 : Int32))])) t → Steps p.tables e below (s₁.setTop (entryFrame m #[(.int kc), (.int lens), (.int q0), (.int q1), (.int q2)] maxLocals)) t := fun t kt => S352 t (st353 _ kt)
      have hc308_355 : ¬ ((1 : Int32) = (0 : Int32)) := by decide
      have S357 : ∀ t, Steps p.tables e below (T353.setTop (mkF m 321 #[.val (.int kc), .val (.int lens), .val (.int q0), .val (.int q1), .val (.int q2), .val (.int (lens &&& (3 : Int32))), .val (.int (((lens.toUInt32 >>> ((2 : Int32) &&& 31).toUInt32).toInt32) &&& (3 : Int32))), .val (.int ((kc &&& (255 : Int32)).toUInt32.toUInt16.toUInt32.toInt32)), .val (.int ((((kc.toUInt32 >>> ((8 : Int32) &&& 31).toUInt32).toInt32) &&& (255 : Int32)).toUInt32.toUInt16.toUInt32.toInt32)), .val (.int ((((kc.toUInt32 >>> ((16 : Int32) &&& 31).toUInt32).toInt32) &&& (255 : Int32)).toUInt32.toUInt16.toUInt32.toInt32)), .val (.ref ky), .val (.int (q0.toInt8.toInt32)), .val (.int (q1.toInt8.toInt32)), .val (.int (q2.toInt8.toInt32)), .val (.ref b301), .val (.ref r318), .val (.ref ky), .val (.ref tb318), .unset] [(.int (q2.toInt8.toInt32)), (.int (q1.toInt8.toInt32)), (.int (q0.toInt8.toInt32)), (.ref b301)])) t → Steps p.tables e below (s₁.setTop (entryFrame m #[(.int kc), (.int lens), (.int q0), (.int q1), (.int q2)] maxLocals)) t := fun t kt => by
        refine S354 t ?_
        show Steps p.tables e below (T353.setTop (mkF m 308 #[.val (.int kc), .val (.int lens), .val (.int q0), .val (.int q1), .val (.int q2), .val (.int (lens &&& (3 : Int32))), .val (.int (((lens.toUInt32 >>> ((2 : Int32) &&& 31).toUInt32).toInt32) &&& (3 : Int32))), .val (.int ((kc &&& (255 : Int32)).toUInt32.toUInt16.toUInt32.toInt32)), .val (.int ((((kc.toUInt32 >>> ((8 : Int32) &&& 31).toUInt32).toInt32) &&& (255 : Int32)).toUInt32.toUInt16.toUInt32.toInt32)), .val (.int ((((kc.toUInt32 >>> ((16 : Int32) &&& 31).toUInt32).toInt32) &&& (255 : Int32)).toUInt32.toUInt16.toUInt32.toInt32)), .val (.ref ky), .val (.int (q0.toInt8.toInt32)), .val (.int (q1.toInt8.toInt32)), .val (.int (q2.toInt8.toInt32)), .val (.ref b301), .val (.ref r318), .val (.ref ky), .val (.ref tb318), .unset] [(.int (1 : Int32))])) t
        refine XS.ifYes X353.here hx rfl (pc0 := 308) (pc' := 313) rfl (hb hby at_308) rfl ((if0 _ _).trans (feq hc308_355).2) (by decide) (by decide) ?_
        refine XS.aload X353.here hx rfl (hb hby at_313) rfl rfl ?_
        refine XS.iload X353.here hx rfl (hb hby at_315) rfl ?_
        refine XS.iload X353.here hx rfl (hb hby at_317) rfl ?_
        refine XS.iload X353.here hx rfl (hb hby at_319) rfl ?_
        exact kt
      obtain ⟨_, _, ⟨T358, L358, k358, n358⟩, -, X358, ⟨Lc358, hQ358, l358, y358, z358⟩, st358⟩ := Jvm.LawKit.callS X353 hx (y := (⟨"com/example/nestwarden/nestwarden/store/ChangeKeepPinLaw", "same", "([BBBB)Z"⟩ : MethodName)) ho2 (mvT hZ2 (hw _ (List.mem_of_getElem? (i := 73) rfl))) (mvT hZ2 (hw _ (List.mem_of_getElem? (i := 74) rfl))) (mvT hZ2 (hw _ (List.mem_of_getElem? (i := 75) rfl))) (mvT hZ2 (hw _ (List.mem_of_getElem? (i := 76) rfl))) (by decide) (backOf (W := 0) (own_rm13n1 l Z a0 hw [] (b301) ((q0.toInt8.toInt32)) ((q1.toInt8.toInt32)) ((q2.toInt8.toInt32)) ((nar .byte (q0.toInt8.toInt32))) (k301) T321.heap n0 (Nat.le_trans Z0 K329.1) F328 (own_lolo _)) hZ2 (hw _ (List.mem_of_getElem? (i := 76) rfl)) (hw _ (List.mem_of_getElem? (i := 75) rfl)) (by decide) (by decide)) (g := (mkF m 321 #[.val (.int kc), .val (.int lens), .val (.int q0), .val (.int q1), .val (.int q2), .val (.int (lens &&& (3 : Int32))), .val (.int (((lens.toUInt32 >>> ((2 : Int32) &&& 31).toUInt32).toInt32) &&& (3 : Int32))), .val (.int ((kc &&& (255 : Int32)).toUInt32.toUInt16.toUInt32.toInt32)), .val (.int ((((kc.toUInt32 >>> ((8 : Int32) &&& 31).toUInt32).toInt32) &&& (255 : Int32)).toUInt32.toUInt16.toUInt32.toInt32)), .val (.int ((((kc.toUInt32 >>> ((16 : Int32) &&& 31).toUInt32).toInt32) &&& (255 : Int32)).toUInt32.toUInt16.toUInt32.toInt32)), .val (.ref ky), .val (.int (q0.toInt8.toInt32)), .val (.int (q1.toInt8.toInt32)), .val (.int (q2.toInt8.toInt32)), .val (.ref b301), .val (.ref r318), .val (.ref ky), .val (.ref tb318), .unset] [(.int (q2.toInt8.toInt32)), (.int (q1.toInt8.toInt32)), (.int (q0.toInt8.toInt32)), (.ref b301)])) rfl (by rw [hml]; rfl) (argsL := [(.ref b301), (.int (q0.toInt8.toInt32)), (.int (q1.toInt8.toInt32)), (.int (q2.toInt8.toInt32))]) (rest := []) (lenOf own_pd11 rfl) rfl (by show 2 * 0 + _ ≤ _; exact Nat.le_of_eq rfl) (hb hby at_321) (fun _ _ => ⟨rfl, eq351, (by decide : 11 + 0 ≤ _), (by decide : 68 + 0 ≤ _)⟩)
      dsimp only [Pt.U, Pt.locs, Pt.cells, Pt.slots] at X358 l358 y358 z358 st358 hQ358
      subst l358 y358 z358
      obtain ⟨rfl, rfl, eq356⟩ := hQ358
      try rw [List.append_nil] at X358
      have S359 : ∀ t, Steps p.tables e below (T358.setTop (mkF m 324 #[.val (.int kc), .val (.int lens), .val (.int q0), .val (.int q1), .val (.int q2), .val (.int (lens &&& (3 : Int32))), .val (.int (((lens.toUInt32 >>> ((2 : Int32) &&& 31).toUInt32).toInt32) &&& (3 : Int32))), .val (.int ((kc &&& (255 : Int32)).toUInt32.toUInt16.toUInt32.toInt32)), .val (.int ((((kc.toUInt32 >>> ((8 : Int32) &&& 31).toUInt32).toInt32) &&& (255 : Int32)).toUInt32.toUInt16.toUInt32.toInt32)), .val (.int ((((kc.toUInt32 >>> ((16 : Int32) &&& 31).toUInt32).toInt32) &&& (255 : Int32)).toUInt32.toUInt16.toUInt32.toInt32)), .val (.ref ky), .val (.int (q0.toInt8.toInt32)), .val (.int (q1.toInt8.toInt32)), .val (.int (q2.toInt8.toInt32)), .val (.ref b301), .val (.ref r318), .val (.ref ky), .val (.ref tb318), .unset] [(.int (1 : Int32))])) t → Steps p.tables e below (s₁.setTop (entryFrame m #[(.int kc), (.int lens), (.int q0), (.int q1), (.int q2)] maxLocals)) t := fun t kt => S357 t (st358 _ kt)
      have hc324_360 : ¬ ((1 : Int32) = (0 : Int32)) := by decide
      have S363 : ∀ t, Steps p.tables e below (T358.setTop (mkF m 331 #[.val (.int kc), .val (.int lens), .val (.int q0), .val (.int q1), .val (.int q2), .val (.int (lens &&& (3 : Int32))), .val (.int (((lens.toUInt32 >>> ((2 : Int32) &&& 31).toUInt32).toInt32) &&& (3 : Int32))), .val (.int ((kc &&& (255 : Int32)).toUInt32.toUInt16.toUInt32.toInt32)), .val (.int ((((kc.toUInt32 >>> ((8 : Int32) &&& 31).toUInt32).toInt32) &&& (255 : Int32)).toUInt32.toUInt16.toUInt32.toInt32)), .val (.int ((((kc.toUInt32 >>> ((16 : Int32) &&& 31).toUInt32).toInt32) &&& (255 : Int32)).toUInt32.toUInt16.toUInt32.toInt32)), .val (.ref ky), .val (.int (q0.toInt8.toInt32)), .val (.int (q1.toInt8.toInt32)), .val (.int (q2.toInt8.toInt32)), .val (.ref b301), .val (.ref r318), .val (.ref ky), .val (.ref tb318), .unset] [(.ref b301)])) t → Steps p.tables e below (s₁.setTop (entryFrame m #[(.int kc), (.int lens), (.int q0), (.int q1), (.int q2)] maxLocals)) t := fun t kt => by
        refine S359 t ?_
        show Steps p.tables e below (T358.setTop (mkF m 324 #[.val (.int kc), .val (.int lens), .val (.int q0), .val (.int q1), .val (.int q2), .val (.int (lens &&& (3 : Int32))), .val (.int (((lens.toUInt32 >>> ((2 : Int32) &&& 31).toUInt32).toInt32) &&& (3 : Int32))), .val (.int ((kc &&& (255 : Int32)).toUInt32.toUInt16.toUInt32.toInt32)), .val (.int ((((kc.toUInt32 >>> ((8 : Int32) &&& 31).toUInt32).toInt32) &&& (255 : Int32)).toUInt32.toUInt16.toUInt32.toInt32)), .val (.int ((((kc.toUInt32 >>> ((16 : Int32) &&& 31).toUInt32).toInt32) &&& (255 : Int32)).toUInt32.toUInt16.toUInt32.toInt32)), .val (.ref ky), .val (.int (q0.toInt8.toInt32)), .val (.int (q1.toInt8.toInt32)), .val (.int (q2.toInt8.toInt32)), .val (.ref b301), .val (.ref r318), .val (.ref ky), .val (.ref tb318), .unset] [(.int (1 : Int32))])) t
        refine XS.ifYes X358.here hx rfl (pc0 := 324) (pc' := 329) rfl (hb hby at_324) rfl ((if0 _ _).trans (feq hc324_360).2) (by decide) (by decide) ?_
        refine XS.aload X358.here hx rfl (hb hby at_329) rfl rfl ?_
        exact kt
      obtain ⟨_, _, ⟨T364, L364, k364, n364⟩, -, X364, ⟨Lc364, hQ364, l364, y364, z364⟩, st364⟩ := Jvm.LawKit.callS X358 hx (y := (⟨"com/example/nestwarden/nestwarden/store/ChangeKeepPinLaw", "flip", "([B)V"⟩ : MethodName)) ho2 (mvT hZ2 (hw _ (List.mem_of_getElem? (i := 77) rfl))) (mvT hZ2 (hw _ (List.mem_of_getElem? (i := 78) rfl))) (mvT hZ2 (hw _ (List.mem_of_getElem? (i := 75) rfl))) (mvT hZ2 (hw _ (List.mem_of_getElem? (i := 79) rfl))) (by decide) (backOf (W := 0) (own_rm14n1 l Z a0 hw [] (b301) ((nar .byte (q0.toInt8.toInt32))) (k301) T321.heap n0 (Nat.le_trans Z0 K329.1) F328 g_b301) hZ2 (hw _ (List.mem_of_getElem? (i := 79) rfl)) (hw _ (List.mem_of_getElem? (i := 75) rfl)) (by decide) (by decide)) (g := (mkF m 331 #[.val (.int kc), .val (.int lens), .val (.int q0), .val (.int q1), .val (.int q2), .val (.int (lens &&& (3 : Int32))), .val (.int (((lens.toUInt32 >>> ((2 : Int32) &&& 31).toUInt32).toInt32) &&& (3 : Int32))), .val (.int ((kc &&& (255 : Int32)).toUInt32.toUInt16.toUInt32.toInt32)), .val (.int ((((kc.toUInt32 >>> ((8 : Int32) &&& 31).toUInt32).toInt32) &&& (255 : Int32)).toUInt32.toUInt16.toUInt32.toInt32)), .val (.int ((((kc.toUInt32 >>> ((16 : Int32) &&& 31).toUInt32).toInt32) &&& (255 : Int32)).toUInt32.toUInt16.toUInt32.toInt32)), .val (.ref ky), .val (.int (q0.toInt8.toInt32)), .val (.int (q1.toInt8.toInt32)), .val (.int (q2.toInt8.toInt32)), .val (.ref b301), .val (.ref r318), .val (.ref ky), .val (.ref tb318), .unset] [(.ref b301)])) rfl (by rw [hml]; rfl) (argsL := [(.ref b301)]) (rest := []) (lenOf own_pd12 rfl) rfl (by show 2 * 0 + _ ≤ _; exact Nat.le_of_eq rfl) (hb hby at_331) (fun _ _ => ⟨rfl, eq356, (by decide : 11 + 0 ≤ _), (by decide : 68 + 0 ≤ _)⟩)
      dsimp only [Pt.U, Pt.locs, Pt.cells, Pt.slots] at X364 l364 y364 z364 st364 hQ364
      subst l364 y364 z364
      obtain ⟨rfl, Nq364, Kc361⟩ := hQ364
      have N365 := Fr.app N322 Nq364
      have S366 : ∀ t, Steps p.tables e below (T364.setTop (mkF m 334 #[.val (.int kc), .val (.int lens), .val (.int q0), .val (.int q1), .val (.int q2), .val (.int (lens &&& (3 : Int32))), .val (.int (((lens.toUInt32 >>> ((2 : Int32) &&& 31).toUInt32).toInt32) &&& (3 : Int32))), .val (.int ((kc &&& (255 : Int32)).toUInt32.toUInt16.toUInt32.toInt32)), .val (.int ((((kc.toUInt32 >>> ((8 : Int32) &&& 31).toUInt32).toInt32) &&& (255 : Int32)).toUInt32.toUInt16.toUInt32.toInt32)), .val (.int ((((kc.toUInt32 >>> ((16 : Int32) &&& 31).toUInt32).toInt32) &&& (255 : Int32)).toUInt32.toUInt16.toUInt32.toInt32)), .val (.ref ky), .val (.int (q0.toInt8.toInt32)), .val (.int (q1.toInt8.toInt32)), .val (.int (q2.toInt8.toInt32)), .val (.ref b301), .val (.ref r318), .val (.ref ky), .val (.ref tb318), .unset] [])) t → Steps p.tables e below (s₁.setTop (entryFrame m #[(.int kc), (.int lens), (.int q0), (.int q1), (.int q2)] maxLocals)) t := fun t kt => S363 t (st364 _ kt)
      have Sf367 := Safe.keep Kc361 (allS Sf324 all0) CR325.1 Sf324
      have CR368 := CR325.trans (CHr.keep Kc361 (allS Sf324 all0) CR325.1)
      have F369 := F326.keep Kc361
      have F370 := F327.keep Kc361
      have F371 := Ec318.keep Kc361
      have F372 := Fk318.keep Kc361 (ninS (Exa.neArv Ec318 F328 (hw _ (List.mem_of_getElem? (i := 35) rfl))) nin0)
      have F373 := Fr318.keep Kc361 (ninS (Exa.neArv Ec318 F328 (hw _ (List.mem_of_getElem? (i := 35) rfl))) nin0)
      have F374 := Va318.keep Kc361 (ninS (Ne.symm ne_b301_tb318) nin0)
      have K375 : Keep h0 T364.heap [] := K329.trans Kc361 (allS (Or.inr sz_b301) all0)
      have S377 : ∀ t, Steps p.tables e below (T364.setTop (mkF m 336 #[.val (.int kc), .val (.int lens), .val (.int q0), .val (.int q1), .val (.int q2), .val (.int (lens &&& (3 : Int32))), .val (.int (((lens.toUInt32 >>> ((2 : Int32) &&& 31).toUInt32).toInt32) &&& (3 : Int32))), .val (.int ((kc &&& (255 : Int32)).toUInt32.toUInt16.toUInt32.toInt32)), .val (.int ((((kc.toUInt32 >>> ((8 : Int32) &&& 31).toUInt32).toInt32) &&& (255 : Int32)).toUInt32.toUInt16.toUInt32.toInt32)), .val (.int ((((kc.toUInt32 >>> ((16 : Int32) &&& 31).toUInt32).toInt32) &&& (255 : Int32)).toUInt32.toUInt16.toUInt32.toInt32)), .val (.ref ky), .val (.int (q0.toInt8.toInt32)), .val (.int (q1.toInt8.toInt32)), .val (.int (q2.toInt8.toInt32)), .val (.ref b301), .val (.ref r318), .val (.ref ky), .val (.ref tb318), .unset] [(.ref r318)])) t → Steps p.tables e below (s₁.setTop (entryFrame m #[(.int kc), (.int lens), (.int q0), (.int q1), (.int q2)] maxLocals)) t := fun t kt => by
        refine S366 t ?_
        show Steps p.tables e below (T364.setTop (mkF m 334 #[.val (.int kc), .val (.int lens), .val (.int q0), .val (.int q1), .val (.int q2), .val (.int (lens &&& (3 : Int32))), .val (.int (((lens.toUInt32 >>> ((2 : Int32) &&& 31).toUInt32).toInt32) &&& (3 : Int32))), .val (.int ((kc &&& (255 : Int32)).toUInt32.toUInt16.toUInt32.toInt32)), .val (.int ((((kc.toUInt32 >>> ((8 : Int32) &&& 31).toUInt32).toInt32) &&& (255 : Int32)).toUInt32.toUInt16.toUInt32.toInt32)), .val (.int ((((kc.toUInt32 >>> ((16 : Int32) &&& 31).toUInt32).toInt32) &&& (255 : Int32)).toUInt32.toUInt16.toUInt32.toInt32)), .val (.ref ky), .val (.int (q0.toInt8.toInt32)), .val (.int (q1.toInt8.toInt32)), .val (.int (q2.toInt8.toInt32)), .val (.ref b301), .val (.ref r318), .val (.ref ky), .val (.ref tb318), .unset] [])) t
        refine XS.aload X364.here hx rfl (hb hby at_334) rfl rfl ?_
        exact kt
      obtain ⟨cq378, kq378, q378a, q378b, q378c⟩ := isOf hZ2 rfl F371
      obtain ⟨_, _, ⟨T378, L378, k378, n378⟩, -, X378, ⟨Lc378, hQ378, l378, y378, z378⟩, st378⟩ := X364.virtualBack hx (y := (⟨"com/example/nestwarden/nestwarden/store/Journal$Change", "record", "()[B"⟩ : MethodName)) (z := (⟨"com/example/nestwarden/nestwarden/store/Journal$Change", "record", "()[B"⟩ : MethodName)) ho2 (mvT hZ2 (hw _ (List.mem_of_getElem? (i := 63) rfl))) (mvT hZ2 (hw _ (List.mem_of_getElem? (i := 64) rfl))) (notFace_of_selects (args := #[]) (mvT hZ2 (hw _ (List.mem_of_getElem? (i := 66) rfl)))) (mvT hZ2 (hw _ (List.mem_of_getElem? (i := 66) rfl))) (mvT hZ2 (hw _ (List.mem_of_getElem? (i := 65) rfl))) (by decide) (backOf (W := 0) (own_rm11 l Z a0 hw [] (r318) (tb318) T364.heap n0 (Nat.le_trans Z0 K375.1) F373) hZ2 (hw _ (List.mem_of_getElem? (i := 67) rfl)) (hw _ (List.mem_of_getElem? (i := 32) rfl)) (by decide) (by decide)) q378a q378c (g := (mkF m 336 #[.val (.int kc), .val (.int lens), .val (.int q0), .val (.int q1), .val (.int q2), .val (.int (lens &&& (3 : Int32))), .val (.int (((lens.toUInt32 >>> ((2 : Int32) &&& 31).toUInt32).toInt32) &&& (3 : Int32))), .val (.int ((kc &&& (255 : Int32)).toUInt32.toUInt16.toUInt32.toInt32)), .val (.int ((((kc.toUInt32 >>> ((8 : Int32) &&& 31).toUInt32).toInt32) &&& (255 : Int32)).toUInt32.toUInt16.toUInt32.toInt32)), .val (.int ((((kc.toUInt32 >>> ((16 : Int32) &&& 31).toUInt32).toInt32) &&& (255 : Int32)).toUInt32.toUInt16.toUInt32.toInt32)), .val (.ref ky), .val (.int (q0.toInt8.toInt32)), .val (.int (q1.toInt8.toInt32)), .val (.int (q2.toInt8.toInt32)), .val (.ref b301), .val (.ref r318), .val (.ref ky), .val (.ref tb318), .unset] [(.ref r318)])) rfl (by rw [hml]; rfl) (Steps.refl _) (argsL := []) (rest := []) (lenOf own_pd9 rfl) rfl (by show 2 * 0 + _ ≤ _; exact Nat.le_of_eq rfl) (hb hby at_336) (fun _ _ => ⟨rfl, rfl, (by decide : 11 + 0 ≤ _), (by decide : 68 + 0 ≤ _)⟩)
      dsimp only [Pt.U, Pt.locs, Pt.cells, Pt.slots] at X378 l378 y378 z378 st378 hQ378
      subst l378 y378 z378
      obtain ⟨rfl, rfl, eq376⟩ := hQ378
      try rw [List.append_nil] at X378
      have S379 : ∀ t, Steps p.tables e below (T378.setTop (mkF m 339 #[.val (.int kc), .val (.int lens), .val (.int q0), .val (.int q1), .val (.int q2), .val (.int (lens &&& (3 : Int32))), .val (.int (((lens.toUInt32 >>> ((2 : Int32) &&& 31).toUInt32).toInt32) &&& (3 : Int32))), .val (.int ((kc &&& (255 : Int32)).toUInt32.toUInt16.toUInt32.toInt32)), .val (.int ((((kc.toUInt32 >>> ((8 : Int32) &&& 31).toUInt32).toInt32) &&& (255 : Int32)).toUInt32.toUInt16.toUInt32.toInt32)), .val (.int ((((kc.toUInt32 >>> ((16 : Int32) &&& 31).toUInt32).toInt32) &&& (255 : Int32)).toUInt32.toUInt16.toUInt32.toInt32)), .val (.ref ky), .val (.int (q0.toInt8.toInt32)), .val (.int (q1.toInt8.toInt32)), .val (.int (q2.toInt8.toInt32)), .val (.ref b301), .val (.ref r318), .val (.ref ky), .val (.ref tb318), .unset] [(.ref tb318)])) t → Steps p.tables e below (s₁.setTop (entryFrame m #[(.int kc), (.int lens), (.int q0), (.int q1), (.int q2)] maxLocals)) t := fun t kt => S377 t (st378.trans kt)
      have S380 : ∀ t, Steps p.tables e below (T378.setTop (mkF m 343 #[.val (.int kc), .val (.int lens), .val (.int q0), .val (.int q1), .val (.int q2), .val (.int (lens &&& (3 : Int32))), .val (.int (((lens.toUInt32 >>> ((2 : Int32) &&& 31).toUInt32).toInt32) &&& (3 : Int32))), .val (.int ((kc &&& (255 : Int32)).toUInt32.toUInt16.toUInt32.toInt32)), .val (.int ((((kc.toUInt32 >>> ((8 : Int32) &&& 31).toUInt32).toInt32) &&& (255 : Int32)).toUInt32.toUInt16.toUInt32.toInt32)), .val (.int ((((kc.toUInt32 >>> ((16 : Int32) &&& 31).toUInt32).toInt32) &&& (255 : Int32)).toUInt32.toUInt16.toUInt32.toInt32)), .val (.ref ky), .val (.int (q0.toInt8.toInt32)), .val (.int (q1.toInt8.toInt32)), .val (.int (q2.toInt8.toInt32)), .val (.ref b301), .val (.ref r318), .val (.ref ky), .val (.ref tb318), .val (.ref tb318)] [(.ref tb318)])) t → Steps p.tables e below (s₁.setTop (entryFrame m #[(.int kc), (.int lens), (.int q0), (.int q1), (.int q2)] maxLocals)) t := fun t kt => by
        refine S379 t ?_
        show Steps p.tables e below (T378.setTop (mkF m 339 #[.val (.int kc), .val (.int lens), .val (.int q0), .val (.int q1), .val (.int q2), .val (.int (lens &&& (3 : Int32))), .val (.int (((lens.toUInt32 >>> ((2 : Int32) &&& 31).toUInt32).toInt32) &&& (3 : Int32))), .val (.int ((kc &&& (255 : Int32)).toUInt32.toUInt16.toUInt32.toInt32)), .val (.int ((((kc.toUInt32 >>> ((8 : Int32) &&& 31).toUInt32).toInt32) &&& (255 : Int32)).toUInt32.toUInt16.toUInt32.toInt32)), .val (.int ((((kc.toUInt32 >>> ((16 : Int32) &&& 31).toUInt32).toInt32) &&& (255 : Int32)).toUInt32.toUInt16.toUInt32.toInt32)), .val (.ref ky), .val (.int (q0.toInt8.toInt32)), .val (.int (q1.toInt8.toInt32)), .val (.int (q2.toInt8.toInt32)), .val (.ref b301), .val (.ref r318), .val (.ref ky), .val (.ref tb318), .unset] [(.ref tb318)])) t
        refine XS.astore X378.here hx rfl (hb hby at_339) rfl rfl (l' := #[.val (.int kc), .val (.int lens), .val (.int q0), .val (.int q1), .val (.int q2), .val (.int (lens &&& (3 : Int32))), .val (.int (((lens.toUInt32 >>> ((2 : Int32) &&& 31).toUInt32).toInt32) &&& (3 : Int32))), .val (.int ((kc &&& (255 : Int32)).toUInt32.toUInt16.toUInt32.toInt32)), .val (.int ((((kc.toUInt32 >>> ((8 : Int32) &&& 31).toUInt32).toInt32) &&& (255 : Int32)).toUInt32.toUInt16.toUInt32.toInt32)), .val (.int ((((kc.toUInt32 >>> ((16 : Int32) &&& 31).toUInt32).toInt32) &&& (255 : Int32)).toUInt32.toUInt16.toUInt32.toInt32)), .val (.ref ky), .val (.int (q0.toInt8.toInt32)), .val (.int (q1.toInt8.toInt32)), .val (.int (q2.toInt8.toInt32)), .val (.ref b301), .val (.ref r318), .val (.ref ky), .val (.ref tb318), .val (.ref tb318)]) rfl ?_
        refine XS.aload X378.here hx rfl (hb hby at_341) rfl rfl ?_
        exact kt
      have S381 : ∀ t, Steps p.tables e below (T378.setTop (mkF m 348 #[.val (.int kc), .val (.int lens), .val (.int q0), .val (.int q1), .val (.int q2), .val (.int (lens &&& (3 : Int32))), .val (.int (((lens.toUInt32 >>> ((2 : Int32) &&& 31).toUInt32).toInt32) &&& (3 : Int32))), .val (.int ((kc &&& (255 : Int32)).toUInt32.toUInt16.toUInt32.toInt32)), .val (.int ((((kc.toUInt32 >>> ((8 : Int32) &&& 31).toUInt32).toInt32) &&& (255 : Int32)).toUInt32.toUInt16.toUInt32.toInt32)), .val (.int ((((kc.toUInt32 >>> ((16 : Int32) &&& 31).toUInt32).toInt32) &&& (255 : Int32)).toUInt32.toUInt16.toUInt32.toInt32)), .val (.ref ky), .val (.int (q0.toInt8.toInt32)), .val (.int (q1.toInt8.toInt32)), .val (.int (q2.toInt8.toInt32)), .val (.ref b301), .val (.ref r318), .val (.ref ky), .val (.ref tb318), .val (.ref tb318)] [(.ref tb318)])) t → Steps p.tables e below (s₁.setTop (entryFrame m #[(.int kc), (.int lens), (.int q0), (.int q1), (.int q2)] maxLocals)) t := fun t kt => by
        refine S380 t ?_
        show Steps p.tables e below (T378.setTop (mkF m 343 #[.val (.int kc), .val (.int lens), .val (.int q0), .val (.int q1), .val (.int q2), .val (.int (lens &&& (3 : Int32))), .val (.int (((lens.toUInt32 >>> ((2 : Int32) &&& 31).toUInt32).toInt32) &&& (3 : Int32))), .val (.int ((kc &&& (255 : Int32)).toUInt32.toUInt16.toUInt32.toInt32)), .val (.int ((((kc.toUInt32 >>> ((8 : Int32) &&& 31).toUInt32).toInt32) &&& (255 : Int32)).toUInt32.toUInt16.toUInt32.toInt32)), .val (.int ((((kc.toUInt32 >>> ((16 : Int32) &&& 31).toUInt32).toInt32) &&& (255 : Int32)).toUInt32.toUInt16.toUInt32.toInt32)), .val (.ref ky), .val (.int (q0.toInt8.toInt32)), .val (.int (q1.toInt8.toInt32)), .val (.int (q2.toInt8.toInt32)), .val (.ref b301), .val (.ref r318), .val (.ref ky), .val (.ref tb318), .val (.ref tb318)] [(.ref tb318)])) t
        refine XS.ifnullNo X378.here hx rfl (hb hby at_343) rfl ?_
        refine XS.aload X378.here hx rfl (hb hby at_346) rfl rfl ?_
        exact kt
      obtain ⟨cl382, Ar382, -, Sz382, Nn382, -, -⟩ := id F374
      have S383 : ∀ t, Steps p.tables e below (T378.setTop (mkF m 351 #[.val (.int kc), .val (.int lens), .val (.int q0), .val (.int q1), .val (.int q2), .val (.int (lens &&& (3 : Int32))), .val (.int (((lens.toUInt32 >>> ((2 : Int32) &&& 31).toUInt32).toInt32) &&& (3 : Int32))), .val (.int ((kc &&& (255 : Int32)).toUInt32.toUInt16.toUInt32.toInt32)), .val (.int ((((kc.toUInt32 >>> ((8 : Int32) &&& 31).toUInt32).toInt32) &&& (255 : Int32)).toUInt32.toUInt16.toUInt32.toInt32)), .val (.int ((((kc.toUInt32 >>> ((16 : Int32) &&& 31).toUInt32).toInt32) &&& (255 : Int32)).toUInt32.toUInt16.toUInt32.toInt32)), .val (.ref ky), .val (.int (q0.toInt8.toInt32)), .val (.int (q1.toInt8.toInt32)), .val (.int (q2.toInt8.toInt32)), .val (.ref b301), .val (.ref r318), .val (.ref ky), .val (.ref tb318), .val (.ref tb318)] [(.int (((lens.toUInt32 >>> ((2 : Int32) &&& 31).toUInt32).toInt32) &&& (3 : Int32))), (.int (1 : Int32))])) t → Steps p.tables e below (s₁.setTop (entryFrame m #[(.int kc), (.int lens), (.int q0), (.int q1), (.int q2)] maxLocals)) t := fun t kt => by
        refine S381 t ?_
        show Steps p.tables e below (T378.setTop (mkF m 348 #[.val (.int kc), .val (.int lens), .val (.int q0), .val (.int q1), .val (.int q2), .val (.int (lens &&& (3 : Int32))), .val (.int (((lens.toUInt32 >>> ((2 : Int32) &&& 31).toUInt32).toInt32) &&& (3 : Int32))), .val (.int ((kc &&& (255 : Int32)).toUInt32.toUInt16.toUInt32.toInt32)), .val (.int ((((kc.toUInt32 >>> ((8 : Int32) &&& 31).toUInt32).toInt32) &&& (255 : Int32)).toUInt32.toUInt16.toUInt32.toInt32)), .val (.int ((((kc.toUInt32 >>> ((16 : Int32) &&& 31).toUInt32).toInt32) &&& (255 : Int32)).toUInt32.toUInt16.toUInt32.toInt32)), .val (.ref ky), .val (.int (q0.toInt8.toInt32)), .val (.int (q1.toInt8.toInt32)), .val (.int (q2.toInt8.toInt32)), .val (.ref b301), .val (.ref r318), .val (.ref ky), .val (.ref tb318), .val (.ref tb318)] [(.ref tb318)])) t
        refine X378.arraylength hx (by rw [(eq376.trans rfl)]; exact Ar382.1) (State.isArrayOf_alike hZ2.alike Ar382.2.1) (g := (mkF m 348 #[.val (.int kc), .val (.int lens), .val (.int q0), .val (.int q1), .val (.int q2), .val (.int (lens &&& (3 : Int32))), .val (.int (((lens.toUInt32 >>> ((2 : Int32) &&& 31).toUInt32).toInt32) &&& (3 : Int32))), .val (.int ((kc &&& (255 : Int32)).toUInt32.toUInt16.toUInt32.toInt32)), .val (.int ((((kc.toUInt32 >>> ((8 : Int32) &&& 31).toUInt32).toInt32) &&& (255 : Int32)).toUInt32.toUInt16.toUInt32.toInt32)), .val (.int ((((kc.toUInt32 >>> ((16 : Int32) &&& 31).toUInt32).toInt32) &&& (255 : Int32)).toUInt32.toUInt16.toUInt32.toInt32)), .val (.ref ky), .val (.int (q0.toInt8.toInt32)), .val (.int (q1.toInt8.toInt32)), .val (.int (q2.toInt8.toInt32)), .val (.ref b301), .val (.ref r318), .val (.ref ky), .val (.ref tb318), .val (.ref tb318)] [(.ref tb318)])) rfl rfl (hb hby at_348) _ ?_
        rw [len_of Sz382 Nn382]
        show Steps p.tables e below (T378.setTop (mkF m 349 #[.val (.int kc), .val (.int lens), .val (.int q0), .val (.int q1), .val (.int q2), .val (.int (lens &&& (3 : Int32))), .val (.int (((lens.toUInt32 >>> ((2 : Int32) &&& 31).toUInt32).toInt32) &&& (3 : Int32))), .val (.int ((kc &&& (255 : Int32)).toUInt32.toUInt16.toUInt32.toInt32)), .val (.int ((((kc.toUInt32 >>> ((8 : Int32) &&& 31).toUInt32).toInt32) &&& (255 : Int32)).toUInt32.toUInt16.toUInt32.toInt32)), .val (.int ((((kc.toUInt32 >>> ((16 : Int32) &&& 31).toUInt32).toInt32) &&& (255 : Int32)).toUInt32.toUInt16.toUInt32.toInt32)), .val (.ref ky), .val (.int (q0.toInt8.toInt32)), .val (.int (q1.toInt8.toInt32)), .val (.int (q2.toInt8.toInt32)), .val (.ref b301), .val (.ref r318), .val (.ref ky), .val (.ref tb318), .val (.ref tb318)] [(.int (1 : Int32))])) t
        refine XS.iload X378.here hx rfl (hb hby at_349) rfl ?_
        exact kt
      have hc351_384 : (1 : Int32) = (((lens.toUInt32 >>> ((2 : Int32) &&& 31).toUInt32).toInt32) &&& (3 : Int32)) := hc175.symm
      have S386 : ∀ t, Steps p.tables e below (T378.setTop (mkF m 362 #[.val (.int kc), .val (.int lens), .val (.int q0), .val (.int q1), .val (.int q2), .val (.int (lens &&& (3 : Int32))), .val (.int (((lens.toUInt32 >>> ((2 : Int32) &&& 31).toUInt32).toInt32) &&& (3 : Int32))), .val (.int ((kc &&& (255 : Int32)).toUInt32.toUInt16.toUInt32.toInt32)), .val (.int ((((kc.toUInt32 >>> ((8 : Int32) &&& 31).toUInt32).toInt32) &&& (255 : Int32)).toUInt32.toUInt16.toUInt32.toInt32)), .val (.int ((((kc.toUInt32 >>> ((16 : Int32) &&& 31).toUInt32).toInt32) &&& (255 : Int32)).toUInt32.toUInt16.toUInt32.toInt32)), .val (.ref ky), .val (.int (q0.toInt8.toInt32)), .val (.int (q1.toInt8.toInt32)), .val (.int (q2.toInt8.toInt32)), .val (.ref b301), .val (.ref r318), .val (.ref ky), .val (.ref tb318), .val (.ref tb318)] [(.int (q2.toInt8.toInt32)), (.int (q1.toInt8.toInt32)), (.int (q0.toInt8.toInt32)), (.ref tb318)])) t → Steps p.tables e below (s₁.setTop (entryFrame m #[(.int kc), (.int lens), (.int q0), (.int q1), (.int q2)] maxLocals)) t := fun t kt => by
        refine S383 t ?_
        show Steps p.tables e below (T378.setTop (mkF m 351 #[.val (.int kc), .val (.int lens), .val (.int q0), .val (.int q1), .val (.int q2), .val (.int (lens &&& (3 : Int32))), .val (.int (((lens.toUInt32 >>> ((2 : Int32) &&& 31).toUInt32).toInt32) &&& (3 : Int32))), .val (.int ((kc &&& (255 : Int32)).toUInt32.toUInt16.toUInt32.toInt32)), .val (.int ((((kc.toUInt32 >>> ((8 : Int32) &&& 31).toUInt32).toInt32) &&& (255 : Int32)).toUInt32.toUInt16.toUInt32.toInt32)), .val (.int ((((kc.toUInt32 >>> ((16 : Int32) &&& 31).toUInt32).toInt32) &&& (255 : Int32)).toUInt32.toUInt16.toUInt32.toInt32)), .val (.ref ky), .val (.int (q0.toInt8.toInt32)), .val (.int (q1.toInt8.toInt32)), .val (.int (q2.toInt8.toInt32)), .val (.ref b301), .val (.ref r318), .val (.ref ky), .val (.ref tb318), .val (.ref tb318)] [(.int (((lens.toUInt32 >>> ((2 : Int32) &&& 31).toUInt32).toInt32) &&& (3 : Int32))), (.int (1 : Int32))])) t
        refine XS.icmpNo X378.here hx rfl (hb hby at_351) rfl (teq hc351_384).2 ?_
        refine XS.aload X378.here hx rfl (hb hby at_354) rfl rfl ?_
        refine XS.iload X378.here hx rfl (hb hby at_356) rfl ?_
        refine XS.iload X378.here hx rfl (hb hby at_358) rfl ?_
        refine XS.iload X378.here hx rfl (hb hby at_360) rfl ?_
        exact kt
      obtain ⟨_, _, ⟨T387, L387, k387, n387⟩, -, X387, ⟨Lc387, hQ387, l387, y387, z387⟩, st387⟩ := Jvm.LawKit.callS X378 hx (y := (⟨"com/example/nestwarden/nestwarden/store/ChangeKeepPinLaw", "same", "([BBBB)Z"⟩ : MethodName)) ho2 (mvT hZ2 (hw _ (List.mem_of_getElem? (i := 73) rfl))) (mvT hZ2 (hw _ (List.mem_of_getElem? (i := 74) rfl))) (mvT hZ2 (hw _ (List.mem_of_getElem? (i := 75) rfl))) (mvT hZ2 (hw _ (List.mem_of_getElem? (i := 76) rfl))) (by decide) (backOf (W := 0) (own_rm13n1 l Z a0 hw [] (tb318) ((q0.toInt8.toInt32)) ((q1.toInt8.toInt32)) ((q2.toInt8.toInt32)) ((nar .byte (q0.toInt8.toInt32))) (k301) T364.heap n0 (Nat.le_trans Z0 K375.1) F374 (own_lolo _)) hZ2 (hw _ (List.mem_of_getElem? (i := 76) rfl)) (hw _ (List.mem_of_getElem? (i := 75) rfl)) (by decide) (by decide)) (g := (mkF m 362 #[.val (.int kc), .val (.int lens), .val (.int q0), .val (.int q1), .val (.int q2), .val (.int (lens &&& (3 : Int32))), .val (.int (((lens.toUInt32 >>> ((2 : Int32) &&& 31).toUInt32).toInt32) &&& (3 : Int32))), .val (.int ((kc &&& (255 : Int32)).toUInt32.toUInt16.toUInt32.toInt32)), .val (.int ((((kc.toUInt32 >>> ((8 : Int32) &&& 31).toUInt32).toInt32) &&& (255 : Int32)).toUInt32.toUInt16.toUInt32.toInt32)), .val (.int ((((kc.toUInt32 >>> ((16 : Int32) &&& 31).toUInt32).toInt32) &&& (255 : Int32)).toUInt32.toUInt16.toUInt32.toInt32)), .val (.ref ky), .val (.int (q0.toInt8.toInt32)), .val (.int (q1.toInt8.toInt32)), .val (.int (q2.toInt8.toInt32)), .val (.ref b301), .val (.ref r318), .val (.ref ky), .val (.ref tb318), .val (.ref tb318)] [(.int (q2.toInt8.toInt32)), (.int (q1.toInt8.toInt32)), (.int (q0.toInt8.toInt32)), (.ref tb318)])) rfl (by rw [hml]; rfl) (argsL := [(.ref tb318), (.int (q0.toInt8.toInt32)), (.int (q1.toInt8.toInt32)), (.int (q2.toInt8.toInt32))]) (rest := []) (lenOf own_pd11 rfl) rfl (by show 2 * 0 + _ ≤ _; exact Nat.le_of_eq rfl) (hb hby at_362) (fun _ _ => ⟨rfl, (eq376.trans rfl), (by decide : 11 + 0 ≤ _), (by decide : 68 + 0 ≤ _)⟩)
      dsimp only [Pt.U, Pt.locs, Pt.cells, Pt.slots] at X387 l387 y387 z387 st387 hQ387
      subst l387 y387 z387
      obtain ⟨rfl, rfl, eq385⟩ := hQ387
      try rw [List.append_nil] at X387
      have S388 : ∀ t, Steps p.tables e below (T387.setTop (mkF m 365 #[.val (.int kc), .val (.int lens), .val (.int q0), .val (.int q1), .val (.int q2), .val (.int (lens &&& (3 : Int32))), .val (.int (((lens.toUInt32 >>> ((2 : Int32) &&& 31).toUInt32).toInt32) &&& (3 : Int32))), .val (.int ((kc &&& (255 : Int32)).toUInt32.toUInt16.toUInt32.toInt32)), .val (.int ((((kc.toUInt32 >>> ((8 : Int32) &&& 31).toUInt32).toInt32) &&& (255 : Int32)).toUInt32.toUInt16.toUInt32.toInt32)), .val (.int ((((kc.toUInt32 >>> ((16 : Int32) &&& 31).toUInt32).toInt32) &&& (255 : Int32)).toUInt32.toUInt16.toUInt32.toInt32)), .val (.ref ky), .val (.int (q0.toInt8.toInt32)), .val (.int (q1.toInt8.toInt32)), .val (.int (q2.toInt8.toInt32)), .val (.ref b301), .val (.ref r318), .val (.ref ky), .val (.ref tb318), .val (.ref tb318)] [(.int (1 : Int32))])) t → Steps p.tables e below (s₁.setTop (entryFrame m #[(.int kc), (.int lens), (.int q0), (.int q1), (.int q2)] maxLocals)) t := fun t kt => S386 t (st387 _ kt)
      have hc365_389 : ¬ ((1 : Int32) = (0 : Int32)) := by decide
      have S390 : ∀ t, Steps p.tables e below (T387.setTop (mkF m 373 #[.val (.int kc), .val (.int lens), .val (.int q0), .val (.int q1), .val (.int q2), .val (.int (lens &&& (3 : Int32))), .val (.int (((lens.toUInt32 >>> ((2 : Int32) &&& 31).toUInt32).toInt32) &&& (3 : Int32))), .val (.int ((kc &&& (255 : Int32)).toUInt32.toUInt16.toUInt32.toInt32)), .val (.int ((((kc.toUInt32 >>> ((8 : Int32) &&& 31).toUInt32).toInt32) &&& (255 : Int32)).toUInt32.toUInt16.toUInt32.toInt32)), .val (.int ((((kc.toUInt32 >>> ((16 : Int32) &&& 31).toUInt32).toInt32) &&& (255 : Int32)).toUInt32.toUInt16.toUInt32.toInt32)), .val (.ref ky), .val (.int (q0.toInt8.toInt32)), .val (.int (q1.toInt8.toInt32)), .val (.int (q2.toInt8.toInt32)), .val (.ref b301), .val (.ref r318), .val (.ref ky), .val (.ref tb318), .val (.ref tb318)] [(.int (1 : Int32))])) t → Steps p.tables e below (s₁.setTop (entryFrame m #[(.int kc), (.int lens), (.int q0), (.int q1), (.int q2)] maxLocals)) t := fun t kt => by
        refine S388 t ?_
        show Steps p.tables e below (T387.setTop (mkF m 365 #[.val (.int kc), .val (.int lens), .val (.int q0), .val (.int q1), .val (.int q2), .val (.int (lens &&& (3 : Int32))), .val (.int (((lens.toUInt32 >>> ((2 : Int32) &&& 31).toUInt32).toInt32) &&& (3 : Int32))), .val (.int ((kc &&& (255 : Int32)).toUInt32.toUInt16.toUInt32.toInt32)), .val (.int ((((kc.toUInt32 >>> ((8 : Int32) &&& 31).toUInt32).toInt32) &&& (255 : Int32)).toUInt32.toUInt16.toUInt32.toInt32)), .val (.int ((((kc.toUInt32 >>> ((16 : Int32) &&& 31).toUInt32).toInt32) &&& (255 : Int32)).toUInt32.toUInt16.toUInt32.toInt32)), .val (.ref ky), .val (.int (q0.toInt8.toInt32)), .val (.int (q1.toInt8.toInt32)), .val (.int (q2.toInt8.toInt32)), .val (.ref b301), .val (.ref r318), .val (.ref ky), .val (.ref tb318), .val (.ref tb318)] [(.int (1 : Int32))])) t
        refine XS.ifNo X387.here hx rfl (hb hby at_365) rfl ((if0 _ _).trans (feq hc365_389).1) ?_
        refine XS.iconst X387.here hx rfl (hb hby at_368) ?_
        refine XS.goto X387.here hx rfl (pc0 := 369) (pc' := 373) rfl (hb hby at_369) (by decide) (by decide) ?_
        exact kt
      obtain ⟨fs, hr, hrun, hended, -, hW, hBk, hsame⟩ := X387.leaveW hS2 (by rw [eq385]; exact (Nat.le_trans (Nat.le_trans (Nat.le_trans (Nat.le_trans hk2 E301.1) (Keep.of_wr W309).1) Kc318.1) Kc361.1)) (v := some (.int (nar .boolean (1 : Int32)))) (fun h => by rw [Bd.returns] at h; cases h)
      refine ⟨_, _, S390 _ ?_, hrun, hended, _, _, rfl, ?_, (by show CHr Z own_EL s.vm s.heap T387.vm T387.heap; rw [hh, eq385]; exact CR368.trans (CHv.at X387 hZ2 hEL CR368.1)), ⟨_, rfl⟩, hW, hBk, hsame.mono (by decide) (by decide)⟩
      · show Steps p.tables e below (T387.setTop (mkF m 373 #[.val (.int kc), .val (.int lens), .val (.int q0), .val (.int q1), .val (.int q2), .val (.int (lens &&& (3 : Int32))), .val (.int (((lens.toUInt32 >>> ((2 : Int32) &&& 31).toUInt32).toInt32) &&& (3 : Int32))), .val (.int ((kc &&& (255 : Int32)).toUInt32.toUInt16.toUInt32.toInt32)), .val (.int ((((kc.toUInt32 >>> ((8 : Int32) &&& 31).toUInt32).toInt32) &&& (255 : Int32)).toUInt32.toUInt16.toUInt32.toInt32)), .val (.int ((((kc.toUInt32 >>> ((16 : Int32) &&& 31).toUInt32).toInt32) &&& (255 : Int32)).toUInt32.toUInt16.toUInt32.toInt32)), .val (.ref ky), .val (.int (q0.toInt8.toInt32)), .val (.int (q1.toInt8.toInt32)), .val (.int (q2.toInt8.toInt32)), .val (.ref b301), .val (.ref r318), .val (.ref ky), .val (.ref tb318), .val (.ref tb318)] [(.int (1 : Int32))])) _
        exact retN X387 hx (t := .boolean) Bd.returns (by simp) (hb hby at_373) hr
      · show own_Q0 Z kc lens q0 q1 q2 cs h0 n0 _ T387.heap _
        rw [eq385]
        exact ⟨rfl, N365⟩
    · skip
      have S391 : ∀ t, Steps p.tables e below (T2.setTop (mkF m 194 #[.val (.int kc), .val (.int lens), .val (.int q0), .val (.int q1), .val (.int q2), .val (.int (lens &&& (3 : Int32))), .val (.int (((lens.toUInt32 >>> ((2 : Int32) &&& 31).toUInt32).toInt32) &&& (3 : Int32))), .val (.int ((kc &&& (255 : Int32)).toUInt32.toUInt16.toUInt32.toInt32)), .val (.int ((((kc.toUInt32 >>> ((8 : Int32) &&& 31).toUInt32).toInt32) &&& (255 : Int32)).toUInt32.toUInt16.toUInt32.toInt32)), .val (.int ((((kc.toUInt32 >>> ((16 : Int32) &&& 31).toUInt32).toInt32) &&& (255 : Int32)).toUInt32.toUInt16.toUInt32.toInt32)), .val (.ref ky), .val (.int (q0.toInt8.toInt32)), .val (.int (q1.toInt8.toInt32)), .val (.int (q2.toInt8.toInt32)), .unset, .unset, .unset, .unset, .unset] [(.int (2 : Int32)), (.int (((lens.toUInt32 >>> ((2 : Int32) &&& 31).toUInt32).toInt32) &&& (3 : Int32)))])) t → Steps p.tables e below (s₁.setTop (entryFrame m #[(.int kc), (.int lens), (.int q0), (.int q1), (.int q2)] maxLocals)) t := fun t kt => by
        refine S299 t ?_
        show Steps p.tables e below (T2.setTop (mkF m 175 #[.val (.int kc), .val (.int lens), .val (.int q0), .val (.int q1), .val (.int q2), .val (.int (lens &&& (3 : Int32))), .val (.int (((lens.toUInt32 >>> ((2 : Int32) &&& 31).toUInt32).toInt32) &&& (3 : Int32))), .val (.int ((kc &&& (255 : Int32)).toUInt32.toUInt16.toUInt32.toInt32)), .val (.int ((((kc.toUInt32 >>> ((8 : Int32) &&& 31).toUInt32).toInt32) &&& (255 : Int32)).toUInt32.toUInt16.toUInt32.toInt32)), .val (.int ((((kc.toUInt32 >>> ((16 : Int32) &&& 31).toUInt32).toInt32) &&& (255 : Int32)).toUInt32.toUInt16.toUInt32.toInt32)), .val (.ref ky), .val (.int (q0.toInt8.toInt32)), .val (.int (q1.toInt8.toInt32)), .val (.int (q2.toInt8.toInt32)), .unset, .unset, .unset, .unset, .unset] [(.int (1 : Int32)), (.int (((lens.toUInt32 >>> ((2 : Int32) &&& 31).toUInt32).toInt32) &&& (3 : Int32)))])) t
        refine XS.icmpYes X2.here hx rfl (pc0 := 175) (pc' := 191) rfl (hb hby at_175) rfl (feq hc175).2 (by decide) (by decide) ?_
        refine XS.iload X2.here hx rfl (hb hby at_191) rfl ?_
        refine XS.iconst X2.here hx rfl (hb hby at_193) ?_
        exact kt
      by_cases hc194 : (((lens.toUInt32 >>> ((2 : Int32) &&& 31).toUInt32).toInt32) &&& (3 : Int32)) = (2 : Int32)
      · skip
        have S392 : ∀ t, Steps p.tables e below (T2.setTop (mkF m 198 #[.val (.int kc), .val (.int lens), .val (.int q0), .val (.int q1), .val (.int q2), .val (.int (lens &&& (3 : Int32))), .val (.int (((lens.toUInt32 >>> ((2 : Int32) &&& 31).toUInt32).toInt32) &&& (3 : Int32))), .val (.int ((kc &&& (255 : Int32)).toUInt32.toUInt16.toUInt32.toInt32)), .val (.int ((((kc.toUInt32 >>> ((8 : Int32) &&& 31).toUInt32).toInt32) &&& (255 : Int32)).toUInt32.toUInt16.toUInt32.toInt32)), .val (.int ((((kc.toUInt32 >>> ((16 : Int32) &&& 31).toUInt32).toInt32) &&& (255 : Int32)).toUInt32.toUInt16.toUInt32.toInt32)), .val (.ref ky), .val (.int (q0.toInt8.toInt32)), .val (.int (q1.toInt8.toInt32)), .val (.int (q2.toInt8.toInt32)), .unset, .unset, .unset, .unset, .unset] [(.int (2 : Int32))])) t → Steps p.tables e below (s₁.setTop (entryFrame m #[(.int kc), (.int lens), (.int q0), (.int q1), (.int q2)] maxLocals)) t := fun t kt => by
          refine S391 t ?_
          show Steps p.tables e below (T2.setTop (mkF m 194 #[.val (.int kc), .val (.int lens), .val (.int q0), .val (.int q1), .val (.int q2), .val (.int (lens &&& (3 : Int32))), .val (.int (((lens.toUInt32 >>> ((2 : Int32) &&& 31).toUInt32).toInt32) &&& (3 : Int32))), .val (.int ((kc &&& (255 : Int32)).toUInt32.toUInt16.toUInt32.toInt32)), .val (.int ((((kc.toUInt32 >>> ((8 : Int32) &&& 31).toUInt32).toInt32) &&& (255 : Int32)).toUInt32.toUInt16.toUInt32.toInt32)), .val (.int ((((kc.toUInt32 >>> ((16 : Int32) &&& 31).toUInt32).toInt32) &&& (255 : Int32)).toUInt32.toUInt16.toUInt32.toInt32)), .val (.ref ky), .val (.int (q0.toInt8.toInt32)), .val (.int (q1.toInt8.toInt32)), .val (.int (q2.toInt8.toInt32)), .unset, .unset, .unset, .unset, .unset] [(.int (2 : Int32)), (.int (((lens.toUInt32 >>> ((2 : Int32) &&& 31).toUInt32).toInt32) &&& (3 : Int32)))])) t
          refine XS.icmpNo X2.here hx rfl (hb hby at_194) rfl (teq hc194).2 ?_
          refine XS.iconst X2.here hx rfl (hb hby at_197) ?_
          exact kt
        obtain ⟨T393, h393, k393, X393, e393, E393, A393, AE393, st393⟩ := newPE X2 hx hZ2 (hw _ (List.mem_of_getElem? (i := 19) rfl)) e2 (g := (mkF m 198 #[.val (.int kc), .val (.int lens), .val (.int q0), .val (.int q1), .val (.int q2), .val (.int (lens &&& (3 : Int32))), .val (.int (((lens.toUInt32 >>> ((2 : Int32) &&& 31).toUInt32).toInt32) &&& (3 : Int32))), .val (.int ((kc &&& (255 : Int32)).toUInt32.toUInt16.toUInt32.toInt32)), .val (.int ((((kc.toUInt32 >>> ((8 : Int32) &&& 31).toUInt32).toInt32) &&& (255 : Int32)).toUInt32.toUInt16.toUInt32.toInt32)), .val (.int ((((kc.toUInt32 >>> ((16 : Int32) &&& 31).toUInt32).toInt32) &&& (255 : Int32)).toUInt32.toUInt16.toUInt32.toInt32)), .val (.ref ky), .val (.int (q0.toInt8.toInt32)), .val (.int (q1.toInt8.toInt32)), .val (.int (q2.toInt8.toInt32)), .unset, .unset, .unset, .unset, .unset] [(.int (2 : Int32))])) rfl (hb hby at_198) rfl (by decide) (cap := 2) (by decide) (by decide) (by decide) (by decide) (ad := "[B") rfl
        obtain ⟨b393, g393⟩ : ∃ z, z = h2.size := ⟨_, rfl⟩
        rw [← g393] at A393 st393 AE393
        have S394 : ∀ t, Steps p.tables e below (T393.setTop (mkF m 200 #[.val (.int kc), .val (.int lens), .val (.int q0), .val (.int q1), .val (.int q2), .val (.int (lens &&& (3 : Int32))), .val (.int (((lens.toUInt32 >>> ((2 : Int32) &&& 31).toUInt32).toInt32) &&& (3 : Int32))), .val (.int ((kc &&& (255 : Int32)).toUInt32.toUInt16.toUInt32.toInt32)), .val (.int ((((kc.toUInt32 >>> ((8 : Int32) &&& 31).toUInt32).toInt32) &&& (255 : Int32)).toUInt32.toUInt16.toUInt32.toInt32)), .val (.int ((((kc.toUInt32 >>> ((16 : Int32) &&& 31).toUInt32).toInt32) &&& (255 : Int32)).toUInt32.toUInt16.toUInt32.toInt32)), .val (.ref ky), .val (.int (q0.toInt8.toInt32)), .val (.int (q1.toInt8.toInt32)), .val (.int (q2.toInt8.toInt32)), .unset, .unset, .unset, .unset, .unset] [(.ref b393)])) t → Steps p.tables e below (s₁.setTop (entryFrame m #[(.int kc), (.int lens), (.int q0), (.int q1), (.int q2)] maxLocals)) t := fun t kt => S392 t (st393 _ kt)
        have Sf_b393 : Safe Z own_EL vm2 h393 b393 := Safe.ext E393 CRj2.1 (Safe.new (Nat.le_of_eq g393.symm))
        have CR395 := CRj2.trans (CHr.ext E393 CRj2.1)
        have g_b393 : n0 ≤ b393 := Nat.le_trans (Nat.le_trans Z0 Kj2.1) (Nat.le_of_eq g393.symm)
        have sz_b393 : h0.size ≤ b393 := Nat.le_trans Kj2.1 (Nat.le_of_eq g393.symm)
        have ne_ky_b393 : ky ≠ b393 := Nat.ne_of_lt (Nat.lt_of_lt_of_le Fj2_0.lt (Nat.le_of_eq g393.symm))
        have F396 := Fj2_0.ext E393
        have K397 : Keep h0 h393 [] := Kj2.ext E393
        have V398 : Arv Z h393 b393 k393 .byte (2 : Int32) [(.int (0 : Int32)), (.int (0 : Int32))] (.int (0 : Int32)) := (Arv.new A393 (by decide)).pad (pad_rep [] (.int (0 : Int32)) 2)
        have S399 : ∀ t, Steps p.tables e below (T393.setTop (mkF m 204 #[.val (.int kc), .val (.int lens), .val (.int q0), .val (.int q1), .val (.int q2), .val (.int (lens &&& (3 : Int32))), .val (.int (((lens.toUInt32 >>> ((2 : Int32) &&& 31).toUInt32).toInt32) &&& (3 : Int32))), .val (.int ((kc &&& (255 : Int32)).toUInt32.toUInt16.toUInt32.toInt32)), .val (.int ((((kc.toUInt32 >>> ((8 : Int32) &&& 31).toUInt32).toInt32) &&& (255 : Int32)).toUInt32.toUInt16.toUInt32.toInt32)), .val (.int ((((kc.toUInt32 >>> ((16 : Int32) &&& 31).toUInt32).toInt32) &&& (255 : Int32)).toUInt32.toUInt16.toUInt32.toInt32)), .val (.ref ky), .val (.int (q0.toInt8.toInt32)), .val (.int (q1.toInt8.toInt32)), .val (.int (q2.toInt8.toInt32)), .unset, .unset, .unset, .unset, .unset] [(.int (q0.toInt8.toInt32)), (.int (0 : Int32)), (.ref b393), (.ref b393)])) t → Steps p.tables e below (s₁.setTop (entryFrame m #[(.int kc), (.int lens), (.int q0), (.int q1), (.int q2)] maxLocals)) t := fun t kt => by
          refine S394 t ?_
          show Steps p.tables e below (T393.setTop (mkF m 200 #[.val (.int kc), .val (.int lens), .val (.int q0), .val (.int q1), .val (.int q2), .val (.int (lens &&& (3 : Int32))), .val (.int (((lens.toUInt32 >>> ((2 : Int32) &&& 31).toUInt32).toInt32) &&& (3 : Int32))), .val (.int ((kc &&& (255 : Int32)).toUInt32.toUInt16.toUInt32.toInt32)), .val (.int ((((kc.toUInt32 >>> ((8 : Int32) &&& 31).toUInt32).toInt32) &&& (255 : Int32)).toUInt32.toUInt16.toUInt32.toInt32)), .val (.int ((((kc.toUInt32 >>> ((16 : Int32) &&& 31).toUInt32).toInt32) &&& (255 : Int32)).toUInt32.toUInt16.toUInt32.toInt32)), .val (.ref ky), .val (.int (q0.toInt8.toInt32)), .val (.int (q1.toInt8.toInt32)), .val (.int (q2.toInt8.toInt32)), .unset, .unset, .unset, .unset, .unset] [(.ref b393)])) t
          refine XS.dup X393.here hx rfl (hb hby at_200) rfl rfl ?_
          refine XS.iconst X393.here hx rfl (hb hby at_201) ?_
          refine XS.iload X393.here hx rfl (hb hby at_202) rfl ?_
          exact kt
        obtain ⟨cl400, Ar400, q400, Sz400, Nn400, Hh400, Gg400⟩ := id V398
        have hin400 : ¬ ((0 : Int32) < 0 ∨ cl400.slots.size ≤ ((0 : Int32)).toNatClampNeg) := inb_of Sz400 ⟨by decide, by decide⟩
        obtain ⟨T401, h401, X401, e401, W401, st401⟩ := stB X393 hx hZ2 e393 Ar400 (j := (0 : Int32)) hin400 (g := (mkF m 204 #[.val (.int kc), .val (.int lens), .val (.int q0), .val (.int q1), .val (.int q2), .val (.int (lens &&& (3 : Int32))), .val (.int (((lens.toUInt32 >>> ((2 : Int32) &&& 31).toUInt32).toInt32) &&& (3 : Int32))), .val (.int ((kc &&& (255 : Int32)).toUInt32.toUInt16.toUInt32.toInt32)), .val (.int ((((kc.toUInt32 >>> ((8 : Int32) &&& 31).toUInt32).toInt32) &&& (255 : Int32)).toUInt32.toUInt16.toUInt32.toInt32)), .val (.int ((((kc.toUInt32 >>> ((16 : Int32) &&& 31).toUInt32).toInt32) &&& (255 : Int32)).toUInt32.toUInt16.toUInt32.toInt32)), .val (.ref ky), .val (.int (q0.toInt8.toInt32)), .val (.int (q1.toInt8.toInt32)), .val (.int (q2.toInt8.toInt32)), .unset, .unset, .unset, .unset, .unset] [(.int (q0.toInt8.toInt32)), (.int (0 : Int32)), (.ref b393), (.ref b393)])) rfl rfl (hb hby at_204)
        have S402 : ∀ t, Steps p.tables e below (T401.setTop (mkF m 205 #[.val (.int kc), .val (.int lens), .val (.int q0), .val (.int q1), .val (.int q2), .val (.int (lens &&& (3 : Int32))), .val (.int (((lens.toUInt32 >>> ((2 : Int32) &&& 31).toUInt32).toInt32) &&& (3 : Int32))), .val (.int ((kc &&& (255 : Int32)).toUInt32.toUInt16.toUInt32.toInt32)), .val (.int ((((kc.toUInt32 >>> ((8 : Int32) &&& 31).toUInt32).toInt32) &&& (255 : Int32)).toUInt32.toUInt16.toUInt32.toInt32)), .val (.int ((((kc.toUInt32 >>> ((16 : Int32) &&& 31).toUInt32).toInt32) &&& (255 : Int32)).toUInt32.toUInt16.toUInt32.toInt32)), .val (.ref ky), .val (.int (q0.toInt8.toInt32)), .val (.int (q1.toInt8.toInt32)), .val (.int (q2.toInt8.toInt32)), .unset, .unset, .unset, .unset, .unset] [(.ref b393)])) t → Steps p.tables e below (s₁.setTop (entryFrame m #[(.int kc), (.int lens), (.int q0), (.int q1), (.int q2)] maxLocals)) t := fun t kt => S399 t (st401 _ kt)
        have V403 := Arv.set Ar400 q400 Sz400 Nn400 Hh400 Gg400 (fits_nar_byte _) W401 0 rfl (Nat.le_of_ble_eq_true rfl)
        have Sf404 := Safe.wr W401 Sf_b393 CR395.1 Sf_b393
        have CR405 := CR395.trans (CHr.wr W401 Sf_b393 CR395.1)
        have F406 := F396.wr W401
        have F407 := AE393.wr W401
        have N408 := Fr.snoc X401 Nj2 g_b393
        have K409 : Keep h0 h401 [] := K397.wr W401 (Or.inr sz_b393)
        have S410 : ∀ t, Steps p.tables e below (T401.setTop (mkF m 209 #[.val (.int kc), .val (.int lens), .val (.int q0), .val (.int q1), .val (.int q2), .val (.int (lens &&& (3 : Int32))), .val (.int (((lens.toUInt32 >>> ((2 : Int32) &&& 31).toUInt32).toInt32) &&& (3 : Int32))), .val (.int ((kc &&& (255 : Int32)).toUInt32.toUInt16.toUInt32.toInt32)), .val (.int ((((kc.toUInt32 >>> ((8 : Int32) &&& 31).toUInt32).toInt32) &&& (255 : Int32)).toUInt32.toUInt16.toUInt32.toInt32)), .val (.int ((((kc.toUInt32 >>> ((16 : Int32) &&& 31).toUInt32).toInt32) &&& (255 : Int32)).toUInt32.toUInt16.toUInt32.toInt32)), .val (.ref ky), .val (.int (q0.toInt8.toInt32)), .val (.int (q1.toInt8.toInt32)), .val (.int (q2.toInt8.toInt32)), .unset, .unset, .unset, .unset, .unset] [(.int (q1.toInt8.toInt32)), (.int (1 : Int32)), (.ref b393), (.ref b393)])) t → Steps p.tables e below (s₁.setTop (entryFrame m #[(.int kc), (.int lens), (.int q0), (.int q1), (.int q2)] maxLocals)) t := fun t kt => by
          refine S402 t ?_
          show Steps p.tables e below (T401.setTop (mkF m 205 #[.val (.int kc), .val (.int lens), .val (.int q0), .val (.int q1), .val (.int q2), .val (.int (lens &&& (3 : Int32))), .val (.int (((lens.toUInt32 >>> ((2 : Int32) &&& 31).toUInt32).toInt32) &&& (3 : Int32))), .val (.int ((kc &&& (255 : Int32)).toUInt32.toUInt16.toUInt32.toInt32)), .val (.int ((((kc.toUInt32 >>> ((8 : Int32) &&& 31).toUInt32).toInt32) &&& (255 : Int32)).toUInt32.toUInt16.toUInt32.toInt32)), .val (.int ((((kc.toUInt32 >>> ((16 : Int32) &&& 31).toUInt32).toInt32) &&& (255 : Int32)).toUInt32.toUInt16.toUInt32.toInt32)), .val (.ref ky), .val (.int (q0.toInt8.toInt32)), .val (.int (q1.toInt8.toInt32)), .val (.int (q2.toInt8.toInt32)), .unset, .unset, .unset, .unset, .unset] [(.ref b393)])) t
          refine XS.dup X401.here hx rfl (hb hby at_205) rfl rfl ?_
          refine XS.iconst X401.here hx rfl (hb hby at_206) ?_
          refine XS.iload X401.here hx rfl (hb hby at_207) rfl ?_
          exact kt
        obtain ⟨cl411, Ar411, q411, Sz411, Nn411, Hh411, Gg411⟩ := id V403
        have hin411 : ¬ ((1 : Int32) < 0 ∨ cl411.slots.size ≤ ((1 : Int32)).toNatClampNeg) := inb_of Sz411 ⟨by decide, by decide⟩
        obtain ⟨T412, h412, X412, e412, W412, st412⟩ := stB X401 hx hZ2 e401 Ar411 (j := (1 : Int32)) hin411 (g := (mkF m 209 #[.val (.int kc), .val (.int lens), .val (.int q0), .val (.int q1), .val (.int q2), .val (.int (lens &&& (3 : Int32))), .val (.int (((lens.toUInt32 >>> ((2 : Int32) &&& 31).toUInt32).toInt32) &&& (3 : Int32))), .val (.int ((kc &&& (255 : Int32)).toUInt32.toUInt16.toUInt32.toInt32)), .val (.int ((((kc.toUInt32 >>> ((8 : Int32) &&& 31).toUInt32).toInt32) &&& (255 : Int32)).toUInt32.toUInt16.toUInt32.toInt32)), .val (.int ((((kc.toUInt32 >>> ((16 : Int32) &&& 31).toUInt32).toInt32) &&& (255 : Int32)).toUInt32.toUInt16.toUInt32.toInt32)), .val (.ref ky), .val (.int (q0.toInt8.toInt32)), .val (.int (q1.toInt8.toInt32)), .val (.int (q2.toInt8.toInt32)), .unset, .unset, .unset, .unset, .unset] [(.int (q1.toInt8.toInt32)), (.int (1 : Int32)), (.ref b393), (.ref b393)])) rfl rfl (hb hby at_209)
        have S413 : ∀ t, Steps p.tables e below (T412.setTop (mkF m 210 #[.val (.int kc), .val (.int lens), .val (.int q0), .val (.int q1), .val (.int q2), .val (.int (lens &&& (3 : Int32))), .val (.int (((lens.toUInt32 >>> ((2 : Int32) &&& 31).toUInt32).toInt32) &&& (3 : Int32))), .val (.int ((kc &&& (255 : Int32)).toUInt32.toUInt16.toUInt32.toInt32)), .val (.int ((((kc.toUInt32 >>> ((8 : Int32) &&& 31).toUInt32).toInt32) &&& (255 : Int32)).toUInt32.toUInt16.toUInt32.toInt32)), .val (.int ((((kc.toUInt32 >>> ((16 : Int32) &&& 31).toUInt32).toInt32) &&& (255 : Int32)).toUInt32.toUInt16.toUInt32.toInt32)), .val (.ref ky), .val (.int (q0.toInt8.toInt32)), .val (.int (q1.toInt8.toInt32)), .val (.int (q2.toInt8.toInt32)), .unset, .unset, .unset, .unset, .unset] [(.ref b393)])) t → Steps p.tables e below (s₁.setTop (entryFrame m #[(.int kc), (.int lens), (.int q0), (.int q1), (.int q2)] maxLocals)) t := fun t kt => S410 t (st412 _ kt)
        have V414 := Arv.set Ar411 q411 Sz411 Nn411 Hh411 Gg411 (fits_nar_byte _) W412 1 rfl (Nat.le_of_ble_eq_true rfl)
        have Sf415 := Safe.wr W412 Sf404 CR405.1 Sf404
        have CR416 := CR405.trans (CHr.wr W412 Sf404 CR405.1)
        have F417 := F406.wr W412
        have F418 := F407.wr W412
        have N419 := Fr.snoc X412 N408 g_b393
        have K420 : Keep h0 h412 [] := K409.wr W412 (Or.inr sz_b393)
        have S423 : ∀ t, Steps p.tables e below (T412.setTop (mkF m 239 #[.val (.int kc), .val (.int lens), .val (.int q0), .val (.int q1), .val (.int q2), .val (.int (lens &&& (3 : Int32))), .val (.int (((lens.toUInt32 >>> ((2 : Int32) &&& 31).toUInt32).toInt32) &&& (3 : Int32))), .val (.int ((kc &&& (255 : Int32)).toUInt32.toUInt16.toUInt32.toInt32)), .val (.int ((((kc.toUInt32 >>> ((8 : Int32) &&& 31).toUInt32).toInt32) &&& (255 : Int32)).toUInt32.toUInt16.toUInt32.toInt32)), .val (.int ((((kc.toUInt32 >>> ((16 : Int32) &&& 31).toUInt32).toInt32) &&& (255 : Int32)).toUInt32.toUInt16.toUInt32.toInt32)), .val (.ref ky), .val (.int (q0.toInt8.toInt32)), .val (.int (q1.toInt8.toInt32)), .val (.int (q2.toInt8.toInt32)), .val (.ref b393), .unset, .unset, .unset, .unset] [(.ref b393), (.ref ky)])) t → Steps p.tables e below (s₁.setTop (entryFrame m #[(.int kc), (.int lens), (.int q0), (.int q1), (.int q2)] maxLocals)) t := fun t kt => by
          refine S413 t ?_
          show Steps p.tables e below (T412.setTop (mkF m 210 #[.val (.int kc), .val (.int lens), .val (.int q0), .val (.int q1), .val (.int q2), .val (.int (lens &&& (3 : Int32))), .val (.int (((lens.toUInt32 >>> ((2 : Int32) &&& 31).toUInt32).toInt32) &&& (3 : Int32))), .val (.int ((kc &&& (255 : Int32)).toUInt32.toUInt16.toUInt32.toInt32)), .val (.int ((((kc.toUInt32 >>> ((8 : Int32) &&& 31).toUInt32).toInt32) &&& (255 : Int32)).toUInt32.toUInt16.toUInt32.toInt32)), .val (.int ((((kc.toUInt32 >>> ((16 : Int32) &&& 31).toUInt32).toInt32) &&& (255 : Int32)).toUInt32.toUInt16.toUInt32.toInt32)), .val (.ref ky), .val (.int (q0.toInt8.toInt32)), .val (.int (q1.toInt8.toInt32)), .val (.int (q2.toInt8.toInt32)), .unset, .unset, .unset, .unset, .unset] [(.ref b393)])) t
          refine XS.astore X412.here hx rfl (hb hby at_210) rfl rfl (l' := #[.val (.int kc), .val (.int lens), .val (.int q0), .val (.int q1), .val (.int q2), .val (.int (lens &&& (3 : Int32))), .val (.int (((lens.toUInt32 >>> ((2 : Int32) &&& 31).toUInt32).toInt32) &&& (3 : Int32))), .val (.int ((kc &&& (255 : Int32)).toUInt32.toUInt16.toUInt32.toInt32)), .val (.int ((((kc.toUInt32 >>> ((8 : Int32) &&& 31).toUInt32).toInt32) &&& (255 : Int32)).toUInt32.toUInt16.toUInt32.toInt32)), .val (.int ((((kc.toUInt32 >>> ((16 : Int32) &&& 31).toUInt32).toInt32) &&& (255 : Int32)).toUInt32.toUInt16.toUInt32.toInt32)), .val (.ref ky), .val (.int (q0.toInt8.toInt32)), .val (.int (q1.toInt8.toInt32)), .val (.int (q2.toInt8.toInt32)), .val (.ref b393), .unset, .unset, .unset, .unset]) rfl ?_
          refine XS.goto X412.here hx rfl (pc0 := 212) (pc' := 235) rfl (hb hby at_212) (by decide) (by decide) ?_
          refine XS.aload X412.here hx rfl (hb hby at_235) rfl rfl ?_
          refine XS.aload X412.here hx rfl (hb hby at_237) rfl rfl ?_
          exact kt
        obtain ⟨_, _, ⟨T424, L424, k424, n424⟩, -, X424, ⟨Lc424, hQ424, l424, y424, z424⟩, st424⟩ := Jvm.LawKit.callS X412 hx (y := (⟨"com/example/nestwarden/nestwarden/store/Journal$Change", "keep", "(Ljava/lang/String;[B)Lcom/example/nestwarden/nestwarden/store/Journal$Change;"⟩ : MethodName)) ho2 (mvT hZ2 (hw _ (List.mem_of_getElem? (i := 30) rfl))) (mvT hZ2 (hw _ (List.mem_of_getElem? (i := 31) rfl))) (mvT hZ2 (hw _ (List.mem_of_getElem? (i := 32) rfl))) (mvT hZ2 (hw _ (List.mem_of_getElem? (i := 33) rfl))) (by decide) (backOf (W := 0) (own_rm7n2 l Z a0 hw [] (ky) (b393) ((nar .byte (q0.toInt8.toInt32))) ((nar .byte (q1.toInt8.toInt32))) (k393) h412 n0 (Nat.le_trans Z0 K420.1) V414 F418) hZ2 (hw _ (List.mem_of_getElem? (i := 33) rfl)) (hw _ (List.mem_of_getElem? (i := 32) rfl)) (by decide) (by decide)) (g := (mkF m 239 #[.val (.int kc), .val (.int lens), .val (.int q0), .val (.int q1), .val (.int q2), .val (.int (lens &&& (3 : Int32))), .val (.int (((lens.toUInt32 >>> ((2 : Int32) &&& 31).toUInt32).toInt32) &&& (3 : Int32))), .val (.int ((kc &&& (255 : Int32)).toUInt32.toUInt16.toUInt32.toInt32)), .val (.int ((((kc.toUInt32 >>> ((8 : Int32) &&& 31).toUInt32).toInt32) &&& (255 : Int32)).toUInt32.toUInt16.toUInt32.toInt32)), .val (.int ((((kc.toUInt32 >>> ((16 : Int32) &&& 31).toUInt32).toInt32) &&& (255 : Int32)).toUInt32.toUInt16.toUInt32.toInt32)), .val (.ref ky), .val (.int (q0.toInt8.toInt32)), .val (.int (q1.toInt8.toInt32)), .val (.int (q2.toInt8.toInt32)), .val (.ref b393), .unset, .unset, .unset, .unset] [(.ref b393), (.ref ky)])) rfl (by rw [hml]; rfl) (argsL := [(.ref ky), (.ref b393)]) (rest := []) (lenOf own_pd7 rfl) rfl (by show 2 * 0 + _ ≤ _; exact Nat.le_of_eq rfl) (hb hby at_239) (fun _ _ => ⟨rfl, e412, (by decide : 9 + 2 ≤ _), (by decide : 66 + 4 ≤ _)⟩)
        dsimp only [Pt.U, Pt.locs, Pt.cells, Pt.slots] at X424 l424 y424 z424 st424 hQ424
        subst l424 y424 z424
        obtain ⟨r421, tb421, rfl, Nq424, gt421, sz421, Kc421, Ec421, Fk421, Fr421, Va421⟩ := hQ424
        have N425 := Fr.app N419 Nq424
        have S426 : ∀ t, Steps p.tables e below (T424.setTop (mkF m 242 #[.val (.int kc), .val (.int lens), .val (.int q0), .val (.int q1), .val (.int q2), .val (.int (lens &&& (3 : Int32))), .val (.int (((lens.toUInt32 >>> ((2 : Int32) &&& 31).toUInt32).toInt32) &&& (3 : Int32))), .val (.int ((kc &&& (255 : Int32)).toUInt32.toUInt16.toUInt32.toInt32)), .val (.int ((((kc.toUInt32 >>> ((8 : Int32) &&& 31).toUInt32).toInt32) &&& (255 : Int32)).toUInt32.toUInt16.toUInt32.toInt32)), .val (.int ((((kc.toUInt32 >>> ((16 : Int32) &&& 31).toUInt32).toInt32) &&& (255 : Int32)).toUInt32.toUInt16.toUInt32.toInt32)), .val (.ref ky), .val (.int (q0.toInt8.toInt32)), .val (.int (q1.toInt8.toInt32)), .val (.int (q2.toInt8.toInt32)), .val (.ref b393), .unset, .unset, .unset, .unset] [(.ref r421)])) t → Steps p.tables e below (s₁.setTop (entryFrame m #[(.int kc), (.int lens), (.int q0), (.int q1), (.int q2)] maxLocals)) t := fun t kt => S423 t (st424 _ kt)
        have Sf427 := Safe.keep Kc421 all0 CR416.1 Sf415
        have CR428 := CR416.trans (CHr.keep Kc421 all0 CR416.1)
        have F429 := F417.keep Kc421
        have F430 := F418.keep Kc421
        have F431 := V414.keep Kc421 nin0
        have K432 : Keep h0 T424.heap [] := K420.trans Kc421 all0
        have ne_ky_tb421 : ky ≠ tb421 := Nat.ne_of_lt (Nat.lt_of_lt_of_le F417.lt sz421)
        have ne_b393_tb421 : b393 ≠ tb421 := Nat.ne_of_lt (Nat.lt_of_lt_of_le F418.lt sz421)
        have S434 : ∀ t, Steps p.tables e below (T424.setTop (mkF m 246 #[.val (.int kc), .val (.int lens), .val (.int q0), .val (.int q1), .val (.int q2), .val (.int (lens &&& (3 : Int32))), .val (.int (((lens.toUInt32 >>> ((2 : Int32) &&& 31).toUInt32).toInt32) &&& (3 : Int32))), .val (.int ((kc &&& (255 : Int32)).toUInt32.toUInt16.toUInt32.toInt32)), .val (.int ((((kc.toUInt32 >>> ((8 : Int32) &&& 31).toUInt32).toInt32) &&& (255 : Int32)).toUInt32.toUInt16.toUInt32.toInt32)), .val (.int ((((kc.toUInt32 >>> ((16 : Int32) &&& 31).toUInt32).toInt32) &&& (255 : Int32)).toUInt32.toUInt16.toUInt32.toInt32)), .val (.ref ky), .val (.int (q0.toInt8.toInt32)), .val (.int (q1.toInt8.toInt32)), .val (.int (q2.toInt8.toInt32)), .val (.ref b393), .val (.ref r421), .unset, .unset, .unset] [(.ref r421)])) t → Steps p.tables e below (s₁.setTop (entryFrame m #[(.int kc), (.int lens), (.int q0), (.int q1), (.int q2)] maxLocals)) t := fun t kt => by
          refine S426 t ?_
          show Steps p.tables e below (T424.setTop (mkF m 242 #[.val (.int kc), .val (.int lens), .val (.int q0), .val (.int q1), .val (.int q2), .val (.int (lens &&& (3 : Int32))), .val (.int (((lens.toUInt32 >>> ((2 : Int32) &&& 31).toUInt32).toInt32) &&& (3 : Int32))), .val (.int ((kc &&& (255 : Int32)).toUInt32.toUInt16.toUInt32.toInt32)), .val (.int ((((kc.toUInt32 >>> ((8 : Int32) &&& 31).toUInt32).toInt32) &&& (255 : Int32)).toUInt32.toUInt16.toUInt32.toInt32)), .val (.int ((((kc.toUInt32 >>> ((16 : Int32) &&& 31).toUInt32).toInt32) &&& (255 : Int32)).toUInt32.toUInt16.toUInt32.toInt32)), .val (.ref ky), .val (.int (q0.toInt8.toInt32)), .val (.int (q1.toInt8.toInt32)), .val (.int (q2.toInt8.toInt32)), .val (.ref b393), .unset, .unset, .unset, .unset] [(.ref r421)])) t
          refine XS.astore X424.here hx rfl (hb hby at_242) rfl rfl (l' := #[.val (.int kc), .val (.int lens), .val (.int q0), .val (.int q1), .val (.int q2), .val (.int (lens &&& (3 : Int32))), .val (.int (((lens.toUInt32 >>> ((2 : Int32) &&& 31).toUInt32).toInt32) &&& (3 : Int32))), .val (.int ((kc &&& (255 : Int32)).toUInt32.toUInt16.toUInt32.toInt32)), .val (.int ((((kc.toUInt32 >>> ((8 : Int32) &&& 31).toUInt32).toInt32) &&& (255 : Int32)).toUInt32.toUInt16.toUInt32.toInt32)), .val (.int ((((kc.toUInt32 >>> ((16 : Int32) &&& 31).toUInt32).toInt32) &&& (255 : Int32)).toUInt32.toUInt16.toUInt32.toInt32)), .val (.ref ky), .val (.int (q0.toInt8.toInt32)), .val (.int (q1.toInt8.toInt32)), .val (.int (q2.toInt8.toInt32)), .val (.ref b393), .val (.ref r421), .unset, .unset, .unset]) rfl ?_
          refine XS.aload X424.here hx rfl (hb hby at_244) rfl rfl ?_
          exact kt
        obtain ⟨cq435, kq435, q435a, q435b, q435c⟩ := isOf hZ2 rfl Ec421
        obtain ⟨_, _, ⟨T435, L435, k435, n435⟩, -, X435, ⟨Lc435, hQ435, l435, y435, z435⟩, st435⟩ := X424.virtualBack hx (y := (⟨"com/example/nestwarden/nestwarden/store/Journal$Change", "key", "()Ljava/lang/String;"⟩ : MethodName)) (z := (⟨"com/example/nestwarden/nestwarden/store/Journal$Change", "key", "()Ljava/lang/String;"⟩ : MethodName)) ho2 (mvT hZ2 (hw _ (List.mem_of_getElem? (i := 58) rfl))) (mvT hZ2 (hw _ (List.mem_of_getElem? (i := 59) rfl))) (notFace_of_selects (args := #[]) (mvT hZ2 (hw _ (List.mem_of_getElem? (i := 61) rfl)))) (mvT hZ2 (hw _ (List.mem_of_getElem? (i := 61) rfl))) (mvT hZ2 (hw _ (List.mem_of_getElem? (i := 60) rfl))) (by decide) (backOf (W := 0) (own_rm10 l Z a0 hw [] (r421) (ky) T424.heap n0 (Nat.le_trans Z0 K432.1) Fk421) hZ2 (hw _ (List.mem_of_getElem? (i := 62) rfl)) (hw _ (List.mem_of_getElem? (i := 32) rfl)) (by decide) (by decide)) q435a q435c (g := (mkF m 246 #[.val (.int kc), .val (.int lens), .val (.int q0), .val (.int q1), .val (.int q2), .val (.int (lens &&& (3 : Int32))), .val (.int (((lens.toUInt32 >>> ((2 : Int32) &&& 31).toUInt32).toInt32) &&& (3 : Int32))), .val (.int ((kc &&& (255 : Int32)).toUInt32.toUInt16.toUInt32.toInt32)), .val (.int ((((kc.toUInt32 >>> ((8 : Int32) &&& 31).toUInt32).toInt32) &&& (255 : Int32)).toUInt32.toUInt16.toUInt32.toInt32)), .val (.int ((((kc.toUInt32 >>> ((16 : Int32) &&& 31).toUInt32).toInt32) &&& (255 : Int32)).toUInt32.toUInt16.toUInt32.toInt32)), .val (.ref ky), .val (.int (q0.toInt8.toInt32)), .val (.int (q1.toInt8.toInt32)), .val (.int (q2.toInt8.toInt32)), .val (.ref b393), .val (.ref r421), .unset, .unset, .unset] [(.ref r421)])) rfl (by rw [hml]; rfl) (Steps.refl _) (argsL := []) (rest := []) (lenOf own_pd8 rfl) rfl (by show 2 * 0 + _ ≤ _; exact Nat.le_of_eq rfl) (hb hby at_246) (fun _ _ => ⟨rfl, rfl, (by decide : 11 + 0 ≤ _), (by decide : 70 + 0 ≤ _)⟩)
        dsimp only [Pt.U, Pt.locs, Pt.cells, Pt.slots] at X435 l435 y435 z435 st435 hQ435
        subst l435 y435 z435
        obtain ⟨rfl, rfl, eq433⟩ := hQ435
        try rw [List.append_nil] at X435
        have S436 : ∀ t, Steps p.tables e below (T435.setTop (mkF m 249 #[.val (.int kc), .val (.int lens), .val (.int q0), .val (.int q1), .val (.int q2), .val (.int (lens &&& (3 : Int32))), .val (.int (((lens.toUInt32 >>> ((2 : Int32) &&& 31).toUInt32).toInt32) &&& (3 : Int32))), .val (.int ((kc &&& (255 : Int32)).toUInt32.toUInt16.toUInt32.toInt32)), .val (.int ((((kc.toUInt32 >>> ((8 : Int32) &&& 31).toUInt32).toInt32) &&& (255 : Int32)).toUInt32.toUInt16.toUInt32.toInt32)), .val (.int ((((kc.toUInt32 >>> ((16 : Int32) &&& 31).toUInt32).toInt32) &&& (255 : Int32)).toUInt32.toUInt16.toUInt32.toInt32)), .val (.ref ky), .val (.int (q0.toInt8.toInt32)), .val (.int (q1.toInt8.toInt32)), .val (.int (q2.toInt8.toInt32)), .val (.ref b393), .val (.ref r421), .unset, .unset, .unset] [(.ref ky)])) t → Steps p.tables e below (s₁.setTop (entryFrame m #[(.int kc), (.int lens), (.int q0), (.int q1), (.int q2)] maxLocals)) t := fun t kt => S434 t (st435.trans kt)
        have S438 : ∀ t, Steps p.tables e below (T435.setTop (mkF m 253 #[.val (.int kc), .val (.int lens), .val (.int q0), .val (.int q1), .val (.int q2), .val (.int (lens &&& (3 : Int32))), .val (.int (((lens.toUInt32 >>> ((2 : Int32) &&& 31).toUInt32).toInt32) &&& (3 : Int32))), .val (.int ((kc &&& (255 : Int32)).toUInt32.toUInt16.toUInt32.toInt32)), .val (.int ((((kc.toUInt32 >>> ((8 : Int32) &&& 31).toUInt32).toInt32) &&& (255 : Int32)).toUInt32.toUInt16.toUInt32.toInt32)), .val (.int ((((kc.toUInt32 >>> ((16 : Int32) &&& 31).toUInt32).toInt32) &&& (255 : Int32)).toUInt32.toUInt16.toUInt32.toInt32)), .val (.ref ky), .val (.int (q0.toInt8.toInt32)), .val (.int (q1.toInt8.toInt32)), .val (.int (q2.toInt8.toInt32)), .val (.ref b393), .val (.ref r421), .val (.ref ky), .unset, .unset] [(.ref r421)])) t → Steps p.tables e below (s₁.setTop (entryFrame m #[(.int kc), (.int lens), (.int q0), (.int q1), (.int q2)] maxLocals)) t := fun t kt => by
          refine S436 t ?_
          show Steps p.tables e below (T435.setTop (mkF m 249 #[.val (.int kc), .val (.int lens), .val (.int q0), .val (.int q1), .val (.int q2), .val (.int (lens &&& (3 : Int32))), .val (.int (((lens.toUInt32 >>> ((2 : Int32) &&& 31).toUInt32).toInt32) &&& (3 : Int32))), .val (.int ((kc &&& (255 : Int32)).toUInt32.toUInt16.toUInt32.toInt32)), .val (.int ((((kc.toUInt32 >>> ((8 : Int32) &&& 31).toUInt32).toInt32) &&& (255 : Int32)).toUInt32.toUInt16.toUInt32.toInt32)), .val (.int ((((kc.toUInt32 >>> ((16 : Int32) &&& 31).toUInt32).toInt32) &&& (255 : Int32)).toUInt32.toUInt16.toUInt32.toInt32)), .val (.ref ky), .val (.int (q0.toInt8.toInt32)), .val (.int (q1.toInt8.toInt32)), .val (.int (q2.toInt8.toInt32)), .val (.ref b393), .val (.ref r421), .unset, .unset, .unset] [(.ref ky)])) t
          refine XS.astore X435.here hx rfl (hb hby at_249) rfl rfl (l' := #[.val (.int kc), .val (.int lens), .val (.int q0), .val (.int q1), .val (.int q2), .val (.int (lens &&& (3 : Int32))), .val (.int (((lens.toUInt32 >>> ((2 : Int32) &&& 31).toUInt32).toInt32) &&& (3 : Int32))), .val (.int ((kc &&& (255 : Int32)).toUInt32.toUInt16.toUInt32.toInt32)), .val (.int ((((kc.toUInt32 >>> ((8 : Int32) &&& 31).toUInt32).toInt32) &&& (255 : Int32)).toUInt32.toUInt16.toUInt32.toInt32)), .val (.int ((((kc.toUInt32 >>> ((16 : Int32) &&& 31).toUInt32).toInt32) &&& (255 : Int32)).toUInt32.toUInt16.toUInt32.toInt32)), .val (.ref ky), .val (.int (q0.toInt8.toInt32)), .val (.int (q1.toInt8.toInt32)), .val (.int (q2.toInt8.toInt32)), .val (.ref b393), .val (.ref r421), .val (.ref ky), .unset, .unset]) rfl ?_
          refine XS.aload X435.here hx rfl (hb hby at_251) rfl rfl ?_
          exact kt
        obtain ⟨cq439, kq439, q439a, q439b, q439c⟩ := isOf hZ2 (eq433.trans rfl) Ec421
        obtain ⟨_, _, ⟨T439, L439, k439, n439⟩, -, X439, ⟨Lc439, hQ439, l439, y439, z439⟩, st439⟩ := X435.virtualBack hx (y := (⟨"com/example/nestwarden/nestwarden/store/Journal$Change", "record", "()[B"⟩ : MethodName)) (z := (⟨"com/example/nestwarden/nestwarden/store/Journal$Change", "record", "()[B"⟩ : MethodName)) ho2 (mvT hZ2 (hw _ (List.mem_of_getElem? (i := 63) rfl))) (mvT hZ2 (hw _ (List.mem_of_getElem? (i := 64) rfl))) (notFace_of_selects (args := #[]) (mvT hZ2 (hw _ (List.mem_of_getElem? (i := 66) rfl)))) (mvT hZ2 (hw _ (List.mem_of_getElem? (i := 66) rfl))) (mvT hZ2 (hw _ (List.mem_of_getElem? (i := 65) rfl))) (by decide) (backOf (W := 0) (own_rm11 l Z a0 hw [] (r421) (tb421) T424.heap n0 (Nat.le_trans Z0 K432.1) Fr421) hZ2 (hw _ (List.mem_of_getElem? (i := 67) rfl)) (hw _ (List.mem_of_getElem? (i := 32) rfl)) (by decide) (by decide)) q439a q439c (g := (mkF m 253 #[.val (.int kc), .val (.int lens), .val (.int q0), .val (.int q1), .val (.int q2), .val (.int (lens &&& (3 : Int32))), .val (.int (((lens.toUInt32 >>> ((2 : Int32) &&& 31).toUInt32).toInt32) &&& (3 : Int32))), .val (.int ((kc &&& (255 : Int32)).toUInt32.toUInt16.toUInt32.toInt32)), .val (.int ((((kc.toUInt32 >>> ((8 : Int32) &&& 31).toUInt32).toInt32) &&& (255 : Int32)).toUInt32.toUInt16.toUInt32.toInt32)), .val (.int ((((kc.toUInt32 >>> ((16 : Int32) &&& 31).toUInt32).toInt32) &&& (255 : Int32)).toUInt32.toUInt16.toUInt32.toInt32)), .val (.ref ky), .val (.int (q0.toInt8.toInt32)), .val (.int (q1.toInt8.toInt32)), .val (.int (q2.toInt8.toInt32)), .val (.ref b393), .val (.ref r421), .val (.ref ky), .unset, .unset] [(.ref r421)])) rfl (by rw [hml]; rfl) (Steps.refl _) (argsL := []) (rest := []) (lenOf own_pd9 rfl) rfl (by show 2 * 0 + _ ≤ _; exact Nat.le_of_eq rfl) (hb hby at_253) (fun _ _ => ⟨rfl, (eq433.trans rfl), (by decide : 11 + 0 ≤ _), (by decide : 70 + 0 ≤ _)⟩)
        dsimp only [Pt.U, Pt.locs, Pt.cells, Pt.slots] at X439 l439 y439 z439 st439 hQ439
        subst l439 y439 z439
        obtain ⟨rfl, rfl, eq437⟩ := hQ439
        try rw [List.append_nil] at X439
        have S440 : ∀ t, Steps p.tables e below (T439.setTop (mkF m 256 #[.val (.int kc), .val (.int lens), .val (.int q0), .val (.int q1), .val (.int q2), .val (.int (lens &&& (3 : Int32))), .val (.int (((lens.toUInt32 >>> ((2 : Int32) &&& 31).toUInt32).toInt32) &&& (3 : Int32))), .val (.int ((kc &&& (255 : Int32)).toUInt32.toUInt16.toUInt32.toInt32)), .val (.int ((((kc.toUInt32 >>> ((8 : Int32) &&& 31).toUInt32).toInt32) &&& (255 : Int32)).toUInt32.toUInt16.toUInt32.toInt32)), .val (.int ((((kc.toUInt32 >>> ((16 : Int32) &&& 31).toUInt32).toInt32) &&& (255 : Int32)).toUInt32.toUInt16.toUInt32.toInt32)), .val (.ref ky), .val (.int (q0.toInt8.toInt32)), .val (.int (q1.toInt8.toInt32)), .val (.int (q2.toInt8.toInt32)), .val (.ref b393), .val (.ref r421), .val (.ref ky), .unset, .unset] [(.ref tb421)])) t → Steps p.tables e below (s₁.setTop (entryFrame m #[(.int kc), (.int lens), (.int q0), (.int q1), (.int q2)] maxLocals)) t := fun t kt => S438 t (st439.trans kt)
        have S441 : ∀ t, Steps p.tables e below (T439.setTop (mkF m 260 #[.val (.int kc), .val (.int lens), .val (.int q0), .val (.int q1), .val (.int q2), .val (.int (lens &&& (3 : Int32))), .val (.int (((lens.toUInt32 >>> ((2 : Int32) &&& 31).toUInt32).toInt32) &&& (3 : Int32))), .val (.int ((kc &&& (255 : Int32)).toUInt32.toUInt16.toUInt32.toInt32)), .val (.int ((((kc.toUInt32 >>> ((8 : Int32) &&& 31).toUInt32).toInt32) &&& (255 : Int32)).toUInt32.toUInt16.toUInt32.toInt32)), .val (.int ((((kc.toUInt32 >>> ((16 : Int32) &&& 31).toUInt32).toInt32) &&& (255 : Int32)).toUInt32.toUInt16.toUInt32.toInt32)), .val (.ref ky), .val (.int (q0.toInt8.toInt32)), .val (.int (q1.toInt8.toInt32)), .val (.int (q2.toInt8.toInt32)), .val (.ref b393), .val (.ref r421), .val (.ref ky), .val (.ref tb421), .unset] [(.ref ky)])) t → Steps p.tables e below (s₁.setTop (entryFrame m #[(.int kc), (.int lens), (.int q0), (.int q1), (.int q2)] maxLocals)) t := fun t kt => by
          refine S440 t ?_
          show Steps p.tables e below (T439.setTop (mkF m 256 #[.val (.int kc), .val (.int lens), .val (.int q0), .val (.int q1), .val (.int q2), .val (.int (lens &&& (3 : Int32))), .val (.int (((lens.toUInt32 >>> ((2 : Int32) &&& 31).toUInt32).toInt32) &&& (3 : Int32))), .val (.int ((kc &&& (255 : Int32)).toUInt32.toUInt16.toUInt32.toInt32)), .val (.int ((((kc.toUInt32 >>> ((8 : Int32) &&& 31).toUInt32).toInt32) &&& (255 : Int32)).toUInt32.toUInt16.toUInt32.toInt32)), .val (.int ((((kc.toUInt32 >>> ((16 : Int32) &&& 31).toUInt32).toInt32) &&& (255 : Int32)).toUInt32.toUInt16.toUInt32.toInt32)), .val (.ref ky), .val (.int (q0.toInt8.toInt32)), .val (.int (q1.toInt8.toInt32)), .val (.int (q2.toInt8.toInt32)), .val (.ref b393), .val (.ref r421), .val (.ref ky), .unset, .unset] [(.ref tb421)])) t
          refine XS.astore X439.here hx rfl (hb hby at_256) rfl rfl (l' := #[.val (.int kc), .val (.int lens), .val (.int q0), .val (.int q1), .val (.int q2), .val (.int (lens &&& (3 : Int32))), .val (.int (((lens.toUInt32 >>> ((2 : Int32) &&& 31).toUInt32).toInt32) &&& (3 : Int32))), .val (.int ((kc &&& (255 : Int32)).toUInt32.toUInt16.toUInt32.toInt32)), .val (.int ((((kc.toUInt32 >>> ((8 : Int32) &&& 31).toUInt32).toInt32) &&& (255 : Int32)).toUInt32.toUInt16.toUInt32.toInt32)), .val (.int ((((kc.toUInt32 >>> ((16 : Int32) &&& 31).toUInt32).toInt32) &&& (255 : Int32)).toUInt32.toUInt16.toUInt32.toInt32)), .val (.ref ky), .val (.int (q0.toInt8.toInt32)), .val (.int (q1.toInt8.toInt32)), .val (.int (q2.toInt8.toInt32)), .val (.ref b393), .val (.ref r421), .val (.ref ky), .val (.ref tb421), .unset]) rfl ?_
          refine XS.aload X439.here hx rfl (hb hby at_258) rfl rfl ?_
          exact kt
        have S443 : ∀ t, Steps p.tables e below (T439.setTop (mkF m 267 #[.val (.int kc), .val (.int lens), .val (.int q0), .val (.int q1), .val (.int q2), .val (.int (lens &&& (3 : Int32))), .val (.int (((lens.toUInt32 >>> ((2 : Int32) &&& 31).toUInt32).toInt32) &&& (3 : Int32))), .val (.int ((kc &&& (255 : Int32)).toUInt32.toUInt16.toUInt32.toInt32)), .val (.int ((((kc.toUInt32 >>> ((8 : Int32) &&& 31).toUInt32).toInt32) &&& (255 : Int32)).toUInt32.toUInt16.toUInt32.toInt32)), .val (.int ((((kc.toUInt32 >>> ((16 : Int32) &&& 31).toUInt32).toInt32) &&& (255 : Int32)).toUInt32.toUInt16.toUInt32.toInt32)), .val (.ref ky), .val (.int (q0.toInt8.toInt32)), .val (.int (q1.toInt8.toInt32)), .val (.int (q2.toInt8.toInt32)), .val (.ref b393), .val (.ref r421), .val (.ref ky), .val (.ref tb421), .unset] [(.ref ky), (.ref ky)])) t → Steps p.tables e below (s₁.setTop (entryFrame m #[(.int kc), (.int lens), (.int q0), (.int q1), (.int q2)] maxLocals)) t := fun t kt => by
          refine S441 t ?_
          show Steps p.tables e below (T439.setTop (mkF m 260 #[.val (.int kc), .val (.int lens), .val (.int q0), .val (.int q1), .val (.int q2), .val (.int (lens &&& (3 : Int32))), .val (.int (((lens.toUInt32 >>> ((2 : Int32) &&& 31).toUInt32).toInt32) &&& (3 : Int32))), .val (.int ((kc &&& (255 : Int32)).toUInt32.toUInt16.toUInt32.toInt32)), .val (.int ((((kc.toUInt32 >>> ((8 : Int32) &&& 31).toUInt32).toInt32) &&& (255 : Int32)).toUInt32.toUInt16.toUInt32.toInt32)), .val (.int ((((kc.toUInt32 >>> ((16 : Int32) &&& 31).toUInt32).toInt32) &&& (255 : Int32)).toUInt32.toUInt16.toUInt32.toInt32)), .val (.ref ky), .val (.int (q0.toInt8.toInt32)), .val (.int (q1.toInt8.toInt32)), .val (.int (q2.toInt8.toInt32)), .val (.ref b393), .val (.ref r421), .val (.ref ky), .val (.ref tb421), .unset] [(.ref ky)])) t
          refine XS.ifnullNo X439.here hx rfl (hb hby at_260) rfl ?_
          refine XS.aload X439.here hx rfl (hb hby at_263) rfl rfl ?_
          refine XS.aload X439.here hx rfl (hb hby at_265) rfl rfl ?_
          exact kt
        obtain ⟨cq444, kq444, q444a, q444b, q444c⟩ := isOf hZ2 eq437 F429
        obtain ⟨_, _, ⟨T444, L444, k444, n444⟩, -, X444, ⟨Lc444, hQ444, l444, y444, z444⟩, st444⟩ := X439.virtualBack hx (y := (⟨"java/lang/String", "equals", "(Ljava/lang/Object;)Z"⟩ : MethodName)) (z := (⟨"java/lang/String", "equals", "(Ljava/lang/Object;)Z"⟩ : MethodName)) ho2 (mvT hZ2 (hw _ (List.mem_of_getElem? (i := 68) rfl))) (mvT hZ2 (hw _ (List.mem_of_getElem? (i := 69) rfl))) (notFace_of_selects (args := #[]) (mvT hZ2 (hw _ (List.mem_of_getElem? (i := 71) rfl)))) (mvT hZ2 (hw _ (List.mem_of_getElem? (i := 71) rfl))) (mvT hZ2 (hw _ (List.mem_of_getElem? (i := 70) rfl))) (by decide) (backOf (W := 0) (own_rm12 l Z a0 hw [] (ky) (ky) T424.heap n0 (Nat.le_trans Z0 K432.1) rfl) hZ2 (hw _ (List.mem_of_getElem? (i := 72) rfl)) (hw _ (List.mem_of_getElem? (i := 2) rfl)) (by decide) (by decide)) q444a q444c (g := (mkF m 267 #[.val (.int kc), .val (.int lens), .val (.int q0), .val (.int q1), .val (.int q2), .val (.int (lens &&& (3 : Int32))), .val (.int (((lens.toUInt32 >>> ((2 : Int32) &&& 31).toUInt32).toInt32) &&& (3 : Int32))), .val (.int ((kc &&& (255 : Int32)).toUInt32.toUInt16.toUInt32.toInt32)), .val (.int ((((kc.toUInt32 >>> ((8 : Int32) &&& 31).toUInt32).toInt32) &&& (255 : Int32)).toUInt32.toUInt16.toUInt32.toInt32)), .val (.int ((((kc.toUInt32 >>> ((16 : Int32) &&& 31).toUInt32).toInt32) &&& (255 : Int32)).toUInt32.toUInt16.toUInt32.toInt32)), .val (.ref ky), .val (.int (q0.toInt8.toInt32)), .val (.int (q1.toInt8.toInt32)), .val (.int (q2.toInt8.toInt32)), .val (.ref b393), .val (.ref r421), .val (.ref ky), .val (.ref tb421), .unset] [(.ref ky), (.ref ky)])) rfl (by rw [hml]; rfl) (Steps.refl _) (argsL := [(.ref ky)]) (rest := []) (lenOf own_pd10 rfl) rfl (by show 2 * 0 + _ ≤ _; exact Nat.le_of_eq rfl) (hb hby at_267) (fun _ _ => ⟨rfl, eq437, (by decide : 11 + 0 ≤ _), (by decide : 70 + 0 ≤ _)⟩)
        dsimp only [Pt.U, Pt.locs, Pt.cells, Pt.slots] at X444 l444 y444 z444 st444 hQ444
        subst l444 y444 z444
        obtain ⟨rfl, rfl, eq442⟩ := hQ444
        try rw [List.append_nil] at X444
        have S445 : ∀ t, Steps p.tables e below (T444.setTop (mkF m 270 #[.val (.int kc), .val (.int lens), .val (.int q0), .val (.int q1), .val (.int q2), .val (.int (lens &&& (3 : Int32))), .val (.int (((lens.toUInt32 >>> ((2 : Int32) &&& 31).toUInt32).toInt32) &&& (3 : Int32))), .val (.int ((kc &&& (255 : Int32)).toUInt32.toUInt16.toUInt32.toInt32)), .val (.int ((((kc.toUInt32 >>> ((8 : Int32) &&& 31).toUInt32).toInt32) &&& (255 : Int32)).toUInt32.toUInt16.toUInt32.toInt32)), .val (.int ((((kc.toUInt32 >>> ((16 : Int32) &&& 31).toUInt32).toInt32) &&& (255 : Int32)).toUInt32.toUInt16.toUInt32.toInt32)), .val (.ref ky), .val (.int (q0.toInt8.toInt32)), .val (.int (q1.toInt8.toInt32)), .val (.int (q2.toInt8.toInt32)), .val (.ref b393), .val (.ref r421), .val (.ref ky), .val (.ref tb421), .unset] [(.int (1 : Int32))])) t → Steps p.tables e below (s₁.setTop (entryFrame m #[(.int kc), (.int lens), (.int q0), (.int q1), (.int q2)] maxLocals)) t := fun t kt => S443 t (st444.trans kt)
        have hc270_446 : ¬ ((1 : Int32) = (0 : Int32)) := by decide
        have S447 : ∀ t, Steps p.tables e below (T444.setTop (mkF m 277 #[.val (.int kc), .val (.int lens), .val (.int q0), .val (.int q1), .val (.int q2), .val (.int (lens &&& (3 : Int32))), .val (.int (((lens.toUInt32 >>> ((2 : Int32) &&& 31).toUInt32).toInt32) &&& (3 : Int32))), .val (.int ((kc &&& (255 : Int32)).toUInt32.toUInt16.toUInt32.toInt32)), .val (.int ((((kc.toUInt32 >>> ((8 : Int32) &&& 31).toUInt32).toInt32) &&& (255 : Int32)).toUInt32.toUInt16.toUInt32.toInt32)), .val (.int ((((kc.toUInt32 >>> ((16 : Int32) &&& 31).toUInt32).toInt32) &&& (255 : Int32)).toUInt32.toUInt16.toUInt32.toInt32)), .val (.ref ky), .val (.int (q0.toInt8.toInt32)), .val (.int (q1.toInt8.toInt32)), .val (.int (q2.toInt8.toInt32)), .val (.ref b393), .val (.ref r421), .val (.ref ky), .val (.ref tb421), .unset] [(.ref tb421)])) t → Steps p.tables e below (s₁.setTop (entryFrame m #[(.int kc), (.int lens), (.int q0), (.int q1), (.int q2)] maxLocals)) t := fun t kt => by
          refine S445 t ?_
          show Steps p.tables e below (T444.setTop (mkF m 270 #[.val (.int kc), .val (.int lens), .val (.int q0), .val (.int q1), .val (.int q2), .val (.int (lens &&& (3 : Int32))), .val (.int (((lens.toUInt32 >>> ((2 : Int32) &&& 31).toUInt32).toInt32) &&& (3 : Int32))), .val (.int ((kc &&& (255 : Int32)).toUInt32.toUInt16.toUInt32.toInt32)), .val (.int ((((kc.toUInt32 >>> ((8 : Int32) &&& 31).toUInt32).toInt32) &&& (255 : Int32)).toUInt32.toUInt16.toUInt32.toInt32)), .val (.int ((((kc.toUInt32 >>> ((16 : Int32) &&& 31).toUInt32).toInt32) &&& (255 : Int32)).toUInt32.toUInt16.toUInt32.toInt32)), .val (.ref ky), .val (.int (q0.toInt8.toInt32)), .val (.int (q1.toInt8.toInt32)), .val (.int (q2.toInt8.toInt32)), .val (.ref b393), .val (.ref r421), .val (.ref ky), .val (.ref tb421), .unset] [(.int (1 : Int32))])) t
          refine XS.ifYes X444.here hx rfl (pc0 := 270) (pc' := 275) rfl (hb hby at_270) rfl ((if0 _ _).trans (feq hc270_446).2) (by decide) (by decide) ?_
          refine XS.aload X444.here hx rfl (hb hby at_275) rfl rfl ?_
          exact kt
        have S448 : ∀ t, Steps p.tables e below (T444.setTop (mkF m 284 #[.val (.int kc), .val (.int lens), .val (.int q0), .val (.int q1), .val (.int q2), .val (.int (lens &&& (3 : Int32))), .val (.int (((lens.toUInt32 >>> ((2 : Int32) &&& 31).toUInt32).toInt32) &&& (3 : Int32))), .val (.int ((kc &&& (255 : Int32)).toUInt32.toUInt16.toUInt32.toInt32)), .val (.int ((((kc.toUInt32 >>> ((8 : Int32) &&& 31).toUInt32).toInt32) &&& (255 : Int32)).toUInt32.toUInt16.toUInt32.toInt32)), .val (.int ((((kc.toUInt32 >>> ((16 : Int32) &&& 31).toUInt32).toInt32) &&& (255 : Int32)).toUInt32.toUInt16.toUInt32.toInt32)), .val (.ref ky), .val (.int (q0.toInt8.toInt32)), .val (.int (q1.toInt8.toInt32)), .val (.int (q2.toInt8.toInt32)), .val (.ref b393), .val (.ref r421), .val (.ref ky), .val (.ref tb421), .unset] [(.ref b393), (.ref tb421)])) t → Steps p.tables e below (s₁.setTop (entryFrame m #[(.int kc), (.int lens), (.int q0), (.int q1), (.int q2)] maxLocals)) t := fun t kt => by
          refine S447 t ?_
          show Steps p.tables e below (T444.setTop (mkF m 277 #[.val (.int kc), .val (.int lens), .val (.int q0), .val (.int q1), .val (.int q2), .val (.int (lens &&& (3 : Int32))), .val (.int (((lens.toUInt32 >>> ((2 : Int32) &&& 31).toUInt32).toInt32) &&& (3 : Int32))), .val (.int ((kc &&& (255 : Int32)).toUInt32.toUInt16.toUInt32.toInt32)), .val (.int ((((kc.toUInt32 >>> ((8 : Int32) &&& 31).toUInt32).toInt32) &&& (255 : Int32)).toUInt32.toUInt16.toUInt32.toInt32)), .val (.int ((((kc.toUInt32 >>> ((16 : Int32) &&& 31).toUInt32).toInt32) &&& (255 : Int32)).toUInt32.toUInt16.toUInt32.toInt32)), .val (.ref ky), .val (.int (q0.toInt8.toInt32)), .val (.int (q1.toInt8.toInt32)), .val (.int (q2.toInt8.toInt32)), .val (.ref b393), .val (.ref r421), .val (.ref ky), .val (.ref tb421), .unset] [(.ref tb421)])) t
          refine XS.ifnullNo X444.here hx rfl (hb hby at_277) rfl ?_
          refine XS.aload X444.here hx rfl (hb hby at_280) rfl rfl ?_
          refine XS.aload X444.here hx rfl (hb hby at_282) rfl rfl ?_
          exact kt
        have hc284_449 : ¬ (tb421 = b393) := (Ne.symm ne_b393_tb421)
        have S450 : ∀ t, Steps p.tables e below (T444.setTop (mkF m 289 #[.val (.int kc), .val (.int lens), .val (.int q0), .val (.int q1), .val (.int q2), .val (.int (lens &&& (3 : Int32))), .val (.int (((lens.toUInt32 >>> ((2 : Int32) &&& 31).toUInt32).toInt32) &&& (3 : Int32))), .val (.int ((kc &&& (255 : Int32)).toUInt32.toUInt16.toUInt32.toInt32)), .val (.int ((((kc.toUInt32 >>> ((8 : Int32) &&& 31).toUInt32).toInt32) &&& (255 : Int32)).toUInt32.toUInt16.toUInt32.toInt32)), .val (.int ((((kc.toUInt32 >>> ((16 : Int32) &&& 31).toUInt32).toInt32) &&& (255 : Int32)).toUInt32.toUInt16.toUInt32.toInt32)), .val (.ref ky), .val (.int (q0.toInt8.toInt32)), .val (.int (q1.toInt8.toInt32)), .val (.int (q2.toInt8.toInt32)), .val (.ref b393), .val (.ref r421), .val (.ref ky), .val (.ref tb421), .unset] [(.ref tb421)])) t → Steps p.tables e below (s₁.setTop (entryFrame m #[(.int kc), (.int lens), (.int q0), (.int q1), (.int q2)] maxLocals)) t := fun t kt => by
          refine S448 t ?_
          show Steps p.tables e below (T444.setTop (mkF m 284 #[.val (.int kc), .val (.int lens), .val (.int q0), .val (.int q1), .val (.int q2), .val (.int (lens &&& (3 : Int32))), .val (.int (((lens.toUInt32 >>> ((2 : Int32) &&& 31).toUInt32).toInt32) &&& (3 : Int32))), .val (.int ((kc &&& (255 : Int32)).toUInt32.toUInt16.toUInt32.toInt32)), .val (.int ((((kc.toUInt32 >>> ((8 : Int32) &&& 31).toUInt32).toInt32) &&& (255 : Int32)).toUInt32.toUInt16.toUInt32.toInt32)), .val (.int ((((kc.toUInt32 >>> ((16 : Int32) &&& 31).toUInt32).toInt32) &&& (255 : Int32)).toUInt32.toUInt16.toUInt32.toInt32)), .val (.ref ky), .val (.int (q0.toInt8.toInt32)), .val (.int (q1.toInt8.toInt32)), .val (.int (q2.toInt8.toInt32)), .val (.ref b393), .val (.ref r421), .val (.ref ky), .val (.ref tb421), .unset] [(.ref b393), (.ref tb421)])) t
          refine Jvm.RoadKit.acmp (g := (mkF m 284 #[.val (.int kc), .val (.int lens), .val (.int q0), .val (.int q1), .val (.int q2), .val (.int (lens &&& (3 : Int32))), .val (.int (((lens.toUInt32 >>> ((2 : Int32) &&& 31).toUInt32).toInt32) &&& (3 : Int32))), .val (.int ((kc &&& (255 : Int32)).toUInt32.toUInt16.toUInt32.toInt32)), .val (.int ((((kc.toUInt32 >>> ((8 : Int32) &&& 31).toUInt32).toInt32) &&& (255 : Int32)).toUInt32.toUInt16.toUInt32.toInt32)), .val (.int ((((kc.toUInt32 >>> ((16 : Int32) &&& 31).toUInt32).toInt32) &&& (255 : Int32)).toUInt32.toUInt16.toUInt32.toInt32)), .val (.ref ky), .val (.int (q0.toInt8.toInt32)), .val (.int (q1.toInt8.toInt32)), .val (.int (q2.toInt8.toInt32)), .val (.ref b393), .val (.ref r421), .val (.ref ky), .val (.ref tb421), .unset] [(.ref b393), (.ref tb421)])) X444 hx rfl rfl rfl (pc0 := 284) (pc' := 287) (same := false) rfl (hb hby at_284) rfl (decide_eq_false fun q => hc284_449 (Value.ref.inj q)) (by decide) (by decide) ?_
          show Steps p.tables e below (T444.setTop (mkF m 287 #[.val (.int kc), .val (.int lens), .val (.int q0), .val (.int q1), .val (.int q2), .val (.int (lens &&& (3 : Int32))), .val (.int (((lens.toUInt32 >>> ((2 : Int32) &&& 31).toUInt32).toInt32) &&& (3 : Int32))), .val (.int ((kc &&& (255 : Int32)).toUInt32.toUInt16.toUInt32.toInt32)), .val (.int ((((kc.toUInt32 >>> ((8 : Int32) &&& 31).toUInt32).toInt32) &&& (255 : Int32)).toUInt32.toUInt16.toUInt32.toInt32)), .val (.int ((((kc.toUInt32 >>> ((16 : Int32) &&& 31).toUInt32).toInt32) &&& (255 : Int32)).toUInt32.toUInt16.toUInt32.toInt32)), .val (.ref ky), .val (.int (q0.toInt8.toInt32)), .val (.int (q1.toInt8.toInt32)), .val (.int (q2.toInt8.toInt32)), .val (.ref b393), .val (.ref r421), .val (.ref ky), .val (.ref tb421), .unset] [])) t
          refine XS.aload X444.here hx rfl (hb hby at_287) rfl rfl ?_
          exact kt
        obtain ⟨cl451, Ar451, -, Sz451, Nn451, -, -⟩ := id Va421
        have S452 : ∀ t, Steps p.tables e below (T444.setTop (mkF m 292 #[.val (.int kc), .val (.int lens), .val (.int q0), .val (.int q1), .val (.int q2), .val (.int (lens &&& (3 : Int32))), .val (.int (((lens.toUInt32 >>> ((2 : Int32) &&& 31).toUInt32).toInt32) &&& (3 : Int32))), .val (.int ((kc &&& (255 : Int32)).toUInt32.toUInt16.toUInt32.toInt32)), .val (.int ((((kc.toUInt32 >>> ((8 : Int32) &&& 31).toUInt32).toInt32) &&& (255 : Int32)).toUInt32.toUInt16.toUInt32.toInt32)), .val (.int ((((kc.toUInt32 >>> ((16 : Int32) &&& 31).toUInt32).toInt32) &&& (255 : Int32)).toUInt32.toUInt16.toUInt32.toInt32)), .val (.ref ky), .val (.int (q0.toInt8.toInt32)), .val (.int (q1.toInt8.toInt32)), .val (.int (q2.toInt8.toInt32)), .val (.ref b393), .val (.ref r421), .val (.ref ky), .val (.ref tb421), .unset] [(.int (((lens.toUInt32 >>> ((2 : Int32) &&& 31).toUInt32).toInt32) &&& (3 : Int32))), (.int (2 : Int32))])) t → Steps p.tables e below (s₁.setTop (entryFrame m #[(.int kc), (.int lens), (.int q0), (.int q1), (.int q2)] maxLocals)) t := fun t kt => by
          refine S450 t ?_
          show Steps p.tables e below (T444.setTop (mkF m 289 #[.val (.int kc), .val (.int lens), .val (.int q0), .val (.int q1), .val (.int q2), .val (.int (lens &&& (3 : Int32))), .val (.int (((lens.toUInt32 >>> ((2 : Int32) &&& 31).toUInt32).toInt32) &&& (3 : Int32))), .val (.int ((kc &&& (255 : Int32)).toUInt32.toUInt16.toUInt32.toInt32)), .val (.int ((((kc.toUInt32 >>> ((8 : Int32) &&& 31).toUInt32).toInt32) &&& (255 : Int32)).toUInt32.toUInt16.toUInt32.toInt32)), .val (.int ((((kc.toUInt32 >>> ((16 : Int32) &&& 31).toUInt32).toInt32) &&& (255 : Int32)).toUInt32.toUInt16.toUInt32.toInt32)), .val (.ref ky), .val (.int (q0.toInt8.toInt32)), .val (.int (q1.toInt8.toInt32)), .val (.int (q2.toInt8.toInt32)), .val (.ref b393), .val (.ref r421), .val (.ref ky), .val (.ref tb421), .unset] [(.ref tb421)])) t
          refine X444.arraylength hx (by rw [eq442]; exact Ar451.1) (State.isArrayOf_alike hZ2.alike Ar451.2.1) (g := (mkF m 289 #[.val (.int kc), .val (.int lens), .val (.int q0), .val (.int q1), .val (.int q2), .val (.int (lens &&& (3 : Int32))), .val (.int (((lens.toUInt32 >>> ((2 : Int32) &&& 31).toUInt32).toInt32) &&& (3 : Int32))), .val (.int ((kc &&& (255 : Int32)).toUInt32.toUInt16.toUInt32.toInt32)), .val (.int ((((kc.toUInt32 >>> ((8 : Int32) &&& 31).toUInt32).toInt32) &&& (255 : Int32)).toUInt32.toUInt16.toUInt32.toInt32)), .val (.int ((((kc.toUInt32 >>> ((16 : Int32) &&& 31).toUInt32).toInt32) &&& (255 : Int32)).toUInt32.toUInt16.toUInt32.toInt32)), .val (.ref ky), .val (.int (q0.toInt8.toInt32)), .val (.int (q1.toInt8.toInt32)), .val (.int (q2.toInt8.toInt32)), .val (.ref b393), .val (.ref r421), .val (.ref ky), .val (.ref tb421), .unset] [(.ref tb421)])) rfl rfl (hb hby at_289) _ ?_
          rw [len_of Sz451 Nn451]
          show Steps p.tables e below (T444.setTop (mkF m 290 #[.val (.int kc), .val (.int lens), .val (.int q0), .val (.int q1), .val (.int q2), .val (.int (lens &&& (3 : Int32))), .val (.int (((lens.toUInt32 >>> ((2 : Int32) &&& 31).toUInt32).toInt32) &&& (3 : Int32))), .val (.int ((kc &&& (255 : Int32)).toUInt32.toUInt16.toUInt32.toInt32)), .val (.int ((((kc.toUInt32 >>> ((8 : Int32) &&& 31).toUInt32).toInt32) &&& (255 : Int32)).toUInt32.toUInt16.toUInt32.toInt32)), .val (.int ((((kc.toUInt32 >>> ((16 : Int32) &&& 31).toUInt32).toInt32) &&& (255 : Int32)).toUInt32.toUInt16.toUInt32.toInt32)), .val (.ref ky), .val (.int (q0.toInt8.toInt32)), .val (.int (q1.toInt8.toInt32)), .val (.int (q2.toInt8.toInt32)), .val (.ref b393), .val (.ref r421), .val (.ref ky), .val (.ref tb421), .unset] [(.int (2 : Int32))])) t
          refine XS.iload X444.here hx rfl (hb hby at_290) rfl ?_
          exact kt
        have hc292_453 : (2 : Int32) = (((lens.toUInt32 >>> ((2 : Int32) &&& 31).toUInt32).toInt32) &&& (3 : Int32)) := hc194.symm
        have S455 : ∀ t, Steps p.tables e below (T444.setTop (mkF m 305 #[.val (.int kc), .val (.int lens), .val (.int q0), .val (.int q1), .val (.int q2), .val (.int (lens &&& (3 : Int32))), .val (.int (((lens.toUInt32 >>> ((2 : Int32) &&& 31).toUInt32).toInt32) &&& (3 : Int32))), .val (.int ((kc &&& (255 : Int32)).toUInt32.toUInt16.toUInt32.toInt32)), .val (.int ((((kc.toUInt32 >>> ((8 : Int32) &&& 31).toUInt32).toInt32) &&& (255 : Int32)).toUInt32.toUInt16.toUInt32.toInt32)), .val (.int ((((kc.toUInt32 >>> ((16 : Int32) &&& 31).toUInt32).toInt32) &&& (255 : Int32)).toUInt32.toUInt16.toUInt32.toInt32)), .val (.ref ky), .val (.int (q0.toInt8.toInt32)), .val (.int (q1.toInt8.toInt32)), .val (.int (q2.toInt8.toInt32)), .val (.ref b393), .val (.ref r421), .val (.ref ky), .val (.ref tb421), .unset] [(.int (q2.toInt8.toInt32)), (.int (q1.toInt8.toInt32)), (.int (q0.toInt8.toInt32)), (.ref tb421)])) t → Steps p.tables e below (s₁.setTop (entryFrame m #[(.int kc), (.int lens), (.int q0), (.int q1), (.int q2)] maxLocals)) t := fun t kt => by
          refine S452 t ?_
          show Steps p.tables e below (T444.setTop (mkF m 292 #[.val (.int kc), .val (.int lens), .val (.int q0), .val (.int q1), .val (.int q2), .val (.int (lens &&& (3 : Int32))), .val (.int (((lens.toUInt32 >>> ((2 : Int32) &&& 31).toUInt32).toInt32) &&& (3 : Int32))), .val (.int ((kc &&& (255 : Int32)).toUInt32.toUInt16.toUInt32.toInt32)), .val (.int ((((kc.toUInt32 >>> ((8 : Int32) &&& 31).toUInt32).toInt32) &&& (255 : Int32)).toUInt32.toUInt16.toUInt32.toInt32)), .val (.int ((((kc.toUInt32 >>> ((16 : Int32) &&& 31).toUInt32).toInt32) &&& (255 : Int32)).toUInt32.toUInt16.toUInt32.toInt32)), .val (.ref ky), .val (.int (q0.toInt8.toInt32)), .val (.int (q1.toInt8.toInt32)), .val (.int (q2.toInt8.toInt32)), .val (.ref b393), .val (.ref r421), .val (.ref ky), .val (.ref tb421), .unset] [(.int (((lens.toUInt32 >>> ((2 : Int32) &&& 31).toUInt32).toInt32) &&& (3 : Int32))), (.int (2 : Int32))])) t
          refine XS.icmpYes X444.here hx rfl (pc0 := 292) (pc' := 297) rfl (hb hby at_292) rfl (teq hc292_453).1 (by decide) (by decide) ?_
          refine XS.aload X444.here hx rfl (hb hby at_297) rfl rfl ?_
          refine XS.iload X444.here hx rfl (hb hby at_299) rfl ?_
          refine XS.iload X444.here hx rfl (hb hby at_301) rfl ?_
          refine XS.iload X444.here hx rfl (hb hby at_303) rfl ?_
          exact kt
        obtain ⟨_, _, ⟨T456, L456, k456, n456⟩, -, X456, ⟨Lc456, hQ456, l456, y456, z456⟩, st456⟩ := Jvm.LawKit.callS X444 hx (y := (⟨"com/example/nestwarden/nestwarden/store/ChangeKeepPinLaw", "same", "([BBBB)Z"⟩ : MethodName)) ho2 (mvT hZ2 (hw _ (List.mem_of_getElem? (i := 73) rfl))) (mvT hZ2 (hw _ (List.mem_of_getElem? (i := 74) rfl))) (mvT hZ2 (hw _ (List.mem_of_getElem? (i := 75) rfl))) (mvT hZ2 (hw _ (List.mem_of_getElem? (i := 76) rfl))) (by decide) (backOf (W := 0) (own_rm13n2 l Z a0 hw [] (tb421) ((q0.toInt8.toInt32)) ((q1.toInt8.toInt32)) ((q2.toInt8.toInt32)) ((nar .byte (q0.toInt8.toInt32))) ((nar .byte (q1.toInt8.toInt32))) (k393) T424.heap n0 (Nat.le_trans Z0 K432.1) Va421 (own_lolo _) (own_lolo _)) hZ2 (hw _ (List.mem_of_getElem? (i := 76) rfl)) (hw _ (List.mem_of_getElem? (i := 75) rfl)) (by decide) (by decide)) (g := (mkF m 305 #[.val (.int kc), .val (.int lens), .val (.int q0), .val (.int q1), .val (.int q2), .val (.int (lens &&& (3 : Int32))), .val (.int (((lens.toUInt32 >>> ((2 : Int32) &&& 31).toUInt32).toInt32) &&& (3 : Int32))), .val (.int ((kc &&& (255 : Int32)).toUInt32.toUInt16.toUInt32.toInt32)), .val (.int ((((kc.toUInt32 >>> ((8 : Int32) &&& 31).toUInt32).toInt32) &&& (255 : Int32)).toUInt32.toUInt16.toUInt32.toInt32)), .val (.int ((((kc.toUInt32 >>> ((16 : Int32) &&& 31).toUInt32).toInt32) &&& (255 : Int32)).toUInt32.toUInt16.toUInt32.toInt32)), .val (.ref ky), .val (.int (q0.toInt8.toInt32)), .val (.int (q1.toInt8.toInt32)), .val (.int (q2.toInt8.toInt32)), .val (.ref b393), .val (.ref r421), .val (.ref ky), .val (.ref tb421), .unset] [(.int (q2.toInt8.toInt32)), (.int (q1.toInt8.toInt32)), (.int (q0.toInt8.toInt32)), (.ref tb421)])) rfl (by rw [hml]; rfl) (argsL := [(.ref tb421), (.int (q0.toInt8.toInt32)), (.int (q1.toInt8.toInt32)), (.int (q2.toInt8.toInt32))]) (rest := []) (lenOf own_pd11 rfl) rfl (by show 2 * 0 + _ ≤ _; exact Nat.le_of_eq rfl) (hb hby at_305) (fun _ _ => ⟨rfl, eq442, (by decide : 11 + 0 ≤ _), (by decide : 70 + 0 ≤ _)⟩)
        dsimp only [Pt.U, Pt.locs, Pt.cells, Pt.slots] at X456 l456 y456 z456 st456 hQ456
        subst l456 y456 z456
        obtain ⟨rfl, rfl, eq454⟩ := hQ456
        try rw [List.append_nil] at X456
        have S457 : ∀ t, Steps p.tables e below (T456.setTop (mkF m 308 #[.val (.int kc), .val (.int lens), .val (.int q0), .val (.int q1), .val (.int q2), .val (.int (lens &&& (3 : Int32))), .val (.int (((lens.toUInt32 >>> ((2 : Int32) &&& 31).toUInt32).toInt32) &&& (3 : Int32))), .val (.int ((kc &&& (255 : Int32)).toUInt32.toUInt16.toUInt32.toInt32)), .val (.int ((((kc.toUInt32 >>> ((8 : Int32) &&& 31).toUInt32).toInt32) &&& (255 : Int32)).toUInt32.toUInt16.toUInt32.toInt32)), .val (.int ((((kc.toUInt32 >>> ((16 : Int32) &&& 31).toUInt32).toInt32) &&& (255 : Int32)).toUInt32.toUInt16.toUInt32.toInt32)), .val (.ref ky), .val (.int (q0.toInt8.toInt32)), .val (.int (q1.toInt8.toInt32)), .val (.int (q2.toInt8.toInt32)), .val (.ref b393), .val (.ref r421), .val (.ref ky), .val (.ref tb421), .unset] [(.int (1 : Int32))])) t → Steps p.tables e below (s₁.setTop (entryFrame m #[(.int kc), (.int lens), (.int q0), (.int q1), (.int q2)] maxLocals)) t := fun t kt => S455 t (st456 _ kt)
        have hc308_458 : ¬ ((1 : Int32) = (0 : Int32)) := by decide
        have S460 : ∀ t, Steps p.tables e below (T456.setTop (mkF m 321 #[.val (.int kc), .val (.int lens), .val (.int q0), .val (.int q1), .val (.int q2), .val (.int (lens &&& (3 : Int32))), .val (.int (((lens.toUInt32 >>> ((2 : Int32) &&& 31).toUInt32).toInt32) &&& (3 : Int32))), .val (.int ((kc &&& (255 : Int32)).toUInt32.toUInt16.toUInt32.toInt32)), .val (.int ((((kc.toUInt32 >>> ((8 : Int32) &&& 31).toUInt32).toInt32) &&& (255 : Int32)).toUInt32.toUInt16.toUInt32.toInt32)), .val (.int ((((kc.toUInt32 >>> ((16 : Int32) &&& 31).toUInt32).toInt32) &&& (255 : Int32)).toUInt32.toUInt16.toUInt32.toInt32)), .val (.ref ky), .val (.int (q0.toInt8.toInt32)), .val (.int (q1.toInt8.toInt32)), .val (.int (q2.toInt8.toInt32)), .val (.ref b393), .val (.ref r421), .val (.ref ky), .val (.ref tb421), .unset] [(.int (q2.toInt8.toInt32)), (.int (q1.toInt8.toInt32)), (.int (q0.toInt8.toInt32)), (.ref b393)])) t → Steps p.tables e below (s₁.setTop (entryFrame m #[(.int kc), (.int lens), (.int q0), (.int q1), (.int q2)] maxLocals)) t := fun t kt => by
          refine S457 t ?_
          show Steps p.tables e below (T456.setTop (mkF m 308 #[.val (.int kc), .val (.int lens), .val (.int q0), .val (.int q1), .val (.int q2), .val (.int (lens &&& (3 : Int32))), .val (.int (((lens.toUInt32 >>> ((2 : Int32) &&& 31).toUInt32).toInt32) &&& (3 : Int32))), .val (.int ((kc &&& (255 : Int32)).toUInt32.toUInt16.toUInt32.toInt32)), .val (.int ((((kc.toUInt32 >>> ((8 : Int32) &&& 31).toUInt32).toInt32) &&& (255 : Int32)).toUInt32.toUInt16.toUInt32.toInt32)), .val (.int ((((kc.toUInt32 >>> ((16 : Int32) &&& 31).toUInt32).toInt32) &&& (255 : Int32)).toUInt32.toUInt16.toUInt32.toInt32)), .val (.ref ky), .val (.int (q0.toInt8.toInt32)), .val (.int (q1.toInt8.toInt32)), .val (.int (q2.toInt8.toInt32)), .val (.ref b393), .val (.ref r421), .val (.ref ky), .val (.ref tb421), .unset] [(.int (1 : Int32))])) t
          refine XS.ifYes X456.here hx rfl (pc0 := 308) (pc' := 313) rfl (hb hby at_308) rfl ((if0 _ _).trans (feq hc308_458).2) (by decide) (by decide) ?_
          refine XS.aload X456.here hx rfl (hb hby at_313) rfl rfl ?_
          refine XS.iload X456.here hx rfl (hb hby at_315) rfl ?_
          refine XS.iload X456.here hx rfl (hb hby at_317) rfl ?_
          refine XS.iload X456.here hx rfl (hb hby at_319) rfl ?_
          exact kt
        obtain ⟨_, _, ⟨T461, L461, k461, n461⟩, -, X461, ⟨Lc461, hQ461, l461, y461, z461⟩, st461⟩ := Jvm.LawKit.callS X456 hx (y := (⟨"com/example/nestwarden/nestwarden/store/ChangeKeepPinLaw", "same", "([BBBB)Z"⟩ : MethodName)) ho2 (mvT hZ2 (hw _ (List.mem_of_getElem? (i := 73) rfl))) (mvT hZ2 (hw _ (List.mem_of_getElem? (i := 74) rfl))) (mvT hZ2 (hw _ (List.mem_of_getElem? (i := 75) rfl))) (mvT hZ2 (hw _ (List.mem_of_getElem? (i := 76) rfl))) (by decide) (backOf (W := 0) (own_rm13n2 l Z a0 hw [] (b393) ((q0.toInt8.toInt32)) ((q1.toInt8.toInt32)) ((q2.toInt8.toInt32)) ((nar .byte (q0.toInt8.toInt32))) ((nar .byte (q1.toInt8.toInt32))) (k393) T424.heap n0 (Nat.le_trans Z0 K432.1) F431 (own_lolo _) (own_lolo _)) hZ2 (hw _ (List.mem_of_getElem? (i := 76) rfl)) (hw _ (List.mem_of_getElem? (i := 75) rfl)) (by decide) (by decide)) (g := (mkF m 321 #[.val (.int kc), .val (.int lens), .val (.int q0), .val (.int q1), .val (.int q2), .val (.int (lens &&& (3 : Int32))), .val (.int (((lens.toUInt32 >>> ((2 : Int32) &&& 31).toUInt32).toInt32) &&& (3 : Int32))), .val (.int ((kc &&& (255 : Int32)).toUInt32.toUInt16.toUInt32.toInt32)), .val (.int ((((kc.toUInt32 >>> ((8 : Int32) &&& 31).toUInt32).toInt32) &&& (255 : Int32)).toUInt32.toUInt16.toUInt32.toInt32)), .val (.int ((((kc.toUInt32 >>> ((16 : Int32) &&& 31).toUInt32).toInt32) &&& (255 : Int32)).toUInt32.toUInt16.toUInt32.toInt32)), .val (.ref ky), .val (.int (q0.toInt8.toInt32)), .val (.int (q1.toInt8.toInt32)), .val (.int (q2.toInt8.toInt32)), .val (.ref b393), .val (.ref r421), .val (.ref ky), .val (.ref tb421), .unset] [(.int (q2.toInt8.toInt32)), (.int (q1.toInt8.toInt32)), (.int (q0.toInt8.toInt32)), (.ref b393)])) rfl (by rw [hml]; rfl) (argsL := [(.ref b393), (.int (q0.toInt8.toInt32)), (.int (q1.toInt8.toInt32)), (.int (q2.toInt8.toInt32))]) (rest := []) (lenOf own_pd11 rfl) rfl (by show 2 * 0 + _ ≤ _; exact Nat.le_of_eq rfl) (hb hby at_321) (fun _ _ => ⟨rfl, eq454, (by decide : 11 + 0 ≤ _), (by decide : 70 + 0 ≤ _)⟩)
        dsimp only [Pt.U, Pt.locs, Pt.cells, Pt.slots] at X461 l461 y461 z461 st461 hQ461
        subst l461 y461 z461
        obtain ⟨rfl, rfl, eq459⟩ := hQ461
        try rw [List.append_nil] at X461
        have S462 : ∀ t, Steps p.tables e below (T461.setTop (mkF m 324 #[.val (.int kc), .val (.int lens), .val (.int q0), .val (.int q1), .val (.int q2), .val (.int (lens &&& (3 : Int32))), .val (.int (((lens.toUInt32 >>> ((2 : Int32) &&& 31).toUInt32).toInt32) &&& (3 : Int32))), .val (.int ((kc &&& (255 : Int32)).toUInt32.toUInt16.toUInt32.toInt32)), .val (.int ((((kc.toUInt32 >>> ((8 : Int32) &&& 31).toUInt32).toInt32) &&& (255 : Int32)).toUInt32.toUInt16.toUInt32.toInt32)), .val (.int ((((kc.toUInt32 >>> ((16 : Int32) &&& 31).toUInt32).toInt32) &&& (255 : Int32)).toUInt32.toUInt16.toUInt32.toInt32)), .val (.ref ky), .val (.int (q0.toInt8.toInt32)), .val (.int (q1.toInt8.toInt32)), .val (.int (q2.toInt8.toInt32)), .val (.ref b393), .val (.ref r421), .val (.ref ky), .val (.ref tb421), .unset] [(.int (1 : Int32))])) t → Steps p.tables e below (s₁.setTop (entryFrame m #[(.int kc), (.int lens), (.int q0), (.int q1), (.int q2)] maxLocals)) t := fun t kt => S460 t (st461 _ kt)
        have hc324_463 : ¬ ((1 : Int32) = (0 : Int32)) := by decide
        have S466 : ∀ t, Steps p.tables e below (T461.setTop (mkF m 331 #[.val (.int kc), .val (.int lens), .val (.int q0), .val (.int q1), .val (.int q2), .val (.int (lens &&& (3 : Int32))), .val (.int (((lens.toUInt32 >>> ((2 : Int32) &&& 31).toUInt32).toInt32) &&& (3 : Int32))), .val (.int ((kc &&& (255 : Int32)).toUInt32.toUInt16.toUInt32.toInt32)), .val (.int ((((kc.toUInt32 >>> ((8 : Int32) &&& 31).toUInt32).toInt32) &&& (255 : Int32)).toUInt32.toUInt16.toUInt32.toInt32)), .val (.int ((((kc.toUInt32 >>> ((16 : Int32) &&& 31).toUInt32).toInt32) &&& (255 : Int32)).toUInt32.toUInt16.toUInt32.toInt32)), .val (.ref ky), .val (.int (q0.toInt8.toInt32)), .val (.int (q1.toInt8.toInt32)), .val (.int (q2.toInt8.toInt32)), .val (.ref b393), .val (.ref r421), .val (.ref ky), .val (.ref tb421), .unset] [(.ref b393)])) t → Steps p.tables e below (s₁.setTop (entryFrame m #[(.int kc), (.int lens), (.int q0), (.int q1), (.int q2)] maxLocals)) t := fun t kt => by
          refine S462 t ?_
          show Steps p.tables e below (T461.setTop (mkF m 324 #[.val (.int kc), .val (.int lens), .val (.int q0), .val (.int q1), .val (.int q2), .val (.int (lens &&& (3 : Int32))), .val (.int (((lens.toUInt32 >>> ((2 : Int32) &&& 31).toUInt32).toInt32) &&& (3 : Int32))), .val (.int ((kc &&& (255 : Int32)).toUInt32.toUInt16.toUInt32.toInt32)), .val (.int ((((kc.toUInt32 >>> ((8 : Int32) &&& 31).toUInt32).toInt32) &&& (255 : Int32)).toUInt32.toUInt16.toUInt32.toInt32)), .val (.int ((((kc.toUInt32 >>> ((16 : Int32) &&& 31).toUInt32).toInt32) &&& (255 : Int32)).toUInt32.toUInt16.toUInt32.toInt32)), .val (.ref ky), .val (.int (q0.toInt8.toInt32)), .val (.int (q1.toInt8.toInt32)), .val (.int (q2.toInt8.toInt32)), .val (.ref b393), .val (.ref r421), .val (.ref ky), .val (.ref tb421), .unset] [(.int (1 : Int32))])) t
          refine XS.ifYes X461.here hx rfl (pc0 := 324) (pc' := 329) rfl (hb hby at_324) rfl ((if0 _ _).trans (feq hc324_463).2) (by decide) (by decide) ?_
          refine XS.aload X461.here hx rfl (hb hby at_329) rfl rfl ?_
          exact kt
        obtain ⟨_, _, ⟨T467, L467, k467, n467⟩, -, X467, ⟨Lc467, hQ467, l467, y467, z467⟩, st467⟩ := Jvm.LawKit.callS X461 hx (y := (⟨"com/example/nestwarden/nestwarden/store/ChangeKeepPinLaw", "flip", "([B)V"⟩ : MethodName)) ho2 (mvT hZ2 (hw _ (List.mem_of_getElem? (i := 77) rfl))) (mvT hZ2 (hw _ (List.mem_of_getElem? (i := 78) rfl))) (mvT hZ2 (hw _ (List.mem_of_getElem? (i := 75) rfl))) (mvT hZ2 (hw _ (List.mem_of_getElem? (i := 79) rfl))) (by decide) (backOf (W := 0) (own_rm14n2 l Z a0 hw [] (b393) ((nar .byte (q0.toInt8.toInt32))) ((nar .byte (q1.toInt8.toInt32))) (k393) T424.heap n0 (Nat.le_trans Z0 K432.1) F431 g_b393) hZ2 (hw _ (List.mem_of_getElem? (i := 79) rfl)) (hw _ (List.mem_of_getElem? (i := 75) rfl)) (by decide) (by decide)) (g := (mkF m 331 #[.val (.int kc), .val (.int lens), .val (.int q0), .val (.int q1), .val (.int q2), .val (.int (lens &&& (3 : Int32))), .val (.int (((lens.toUInt32 >>> ((2 : Int32) &&& 31).toUInt32).toInt32) &&& (3 : Int32))), .val (.int ((kc &&& (255 : Int32)).toUInt32.toUInt16.toUInt32.toInt32)), .val (.int ((((kc.toUInt32 >>> ((8 : Int32) &&& 31).toUInt32).toInt32) &&& (255 : Int32)).toUInt32.toUInt16.toUInt32.toInt32)), .val (.int ((((kc.toUInt32 >>> ((16 : Int32) &&& 31).toUInt32).toInt32) &&& (255 : Int32)).toUInt32.toUInt16.toUInt32.toInt32)), .val (.ref ky), .val (.int (q0.toInt8.toInt32)), .val (.int (q1.toInt8.toInt32)), .val (.int (q2.toInt8.toInt32)), .val (.ref b393), .val (.ref r421), .val (.ref ky), .val (.ref tb421), .unset] [(.ref b393)])) rfl (by rw [hml]; rfl) (argsL := [(.ref b393)]) (rest := []) (lenOf own_pd12 rfl) rfl (by show 2 * 0 + _ ≤ _; exact Nat.le_of_eq rfl) (hb hby at_331) (fun _ _ => ⟨rfl, eq459, (by decide : 11 + 0 ≤ _), (by decide : 70 + 0 ≤ _)⟩)
        dsimp only [Pt.U, Pt.locs, Pt.cells, Pt.slots] at X467 l467 y467 z467 st467 hQ467
        subst l467 y467 z467
        obtain ⟨rfl, Nq467, Kc464⟩ := hQ467
        have N468 := Fr.app N425 Nq467
        have S469 : ∀ t, Steps p.tables e below (T467.setTop (mkF m 334 #[.val (.int kc), .val (.int lens), .val (.int q0), .val (.int q1), .val (.int q2), .val (.int (lens &&& (3 : Int32))), .val (.int (((lens.toUInt32 >>> ((2 : Int32) &&& 31).toUInt32).toInt32) &&& (3 : Int32))), .val (.int ((kc &&& (255 : Int32)).toUInt32.toUInt16.toUInt32.toInt32)), .val (.int ((((kc.toUInt32 >>> ((8 : Int32) &&& 31).toUInt32).toInt32) &&& (255 : Int32)).toUInt32.toUInt16.toUInt32.toInt32)), .val (.int ((((kc.toUInt32 >>> ((16 : Int32) &&& 31).toUInt32).toInt32) &&& (255 : Int32)).toUInt32.toUInt16.toUInt32.toInt32)), .val (.ref ky), .val (.int (q0.toInt8.toInt32)), .val (.int (q1.toInt8.toInt32)), .val (.int (q2.toInt8.toInt32)), .val (.ref b393), .val (.ref r421), .val (.ref ky), .val (.ref tb421), .unset] [])) t → Steps p.tables e below (s₁.setTop (entryFrame m #[(.int kc), (.int lens), (.int q0), (.int q1), (.int q2)] maxLocals)) t := fun t kt => S466 t (st467 _ kt)
        have Sf470 := Safe.keep Kc464 (allS Sf427 all0) CR428.1 Sf427
        have CR471 := CR428.trans (CHr.keep Kc464 (allS Sf427 all0) CR428.1)
        have F472 := F429.keep Kc464
        have F473 := F430.keep Kc464
        have F474 := Ec421.keep Kc464
        have F475 := Fk421.keep Kc464 (ninS (Exa.neArv Ec421 F431 (hw _ (List.mem_of_getElem? (i := 35) rfl))) nin0)
        have F476 := Fr421.keep Kc464 (ninS (Exa.neArv Ec421 F431 (hw _ (List.mem_of_getElem? (i := 35) rfl))) nin0)
        have F477 := Va421.keep Kc464 (ninS (Ne.symm ne_b393_tb421) nin0)
        have K478 : Keep h0 T467.heap [] := K432.trans Kc464 (allS (Or.inr sz_b393) all0)
        have S480 : ∀ t, Steps p.tables e below (T467.setTop (mkF m 336 #[.val (.int kc), .val (.int lens), .val (.int q0), .val (.int q1), .val (.int q2), .val (.int (lens &&& (3 : Int32))), .val (.int (((lens.toUInt32 >>> ((2 : Int32) &&& 31).toUInt32).toInt32) &&& (3 : Int32))), .val (.int ((kc &&& (255 : Int32)).toUInt32.toUInt16.toUInt32.toInt32)), .val (.int ((((kc.toUInt32 >>> ((8 : Int32) &&& 31).toUInt32).toInt32) &&& (255 : Int32)).toUInt32.toUInt16.toUInt32.toInt32)), .val (.int ((((kc.toUInt32 >>> ((16 : Int32) &&& 31).toUInt32).toInt32) &&& (255 : Int32)).toUInt32.toUInt16.toUInt32.toInt32)), .val (.ref ky), .val (.int (q0.toInt8.toInt32)), .val (.int (q1.toInt8.toInt32)), .val (.int (q2.toInt8.toInt32)), .val (.ref b393), .val (.ref r421), .val (.ref ky), .val (.ref tb421), .unset] [(.ref r421)])) t → Steps p.tables e below (s₁.setTop (entryFrame m #[(.int kc), (.int lens), (.int q0), (.int q1), (.int q2)] maxLocals)) t := fun t kt => by
          refine S469 t ?_
          show Steps p.tables e below (T467.setTop (mkF m 334 #[.val (.int kc), .val (.int lens), .val (.int q0), .val (.int q1), .val (.int q2), .val (.int (lens &&& (3 : Int32))), .val (.int (((lens.toUInt32 >>> ((2 : Int32) &&& 31).toUInt32).toInt32) &&& (3 : Int32))), .val (.int ((kc &&& (255 : Int32)).toUInt32.toUInt16.toUInt32.toInt32)), .val (.int ((((kc.toUInt32 >>> ((8 : Int32) &&& 31).toUInt32).toInt32) &&& (255 : Int32)).toUInt32.toUInt16.toUInt32.toInt32)), .val (.int ((((kc.toUInt32 >>> ((16 : Int32) &&& 31).toUInt32).toInt32) &&& (255 : Int32)).toUInt32.toUInt16.toUInt32.toInt32)), .val (.ref ky), .val (.int (q0.toInt8.toInt32)), .val (.int (q1.toInt8.toInt32)), .val (.int (q2.toInt8.toInt32)), .val (.ref b393), .val (.ref r421), .val (.ref ky), .val (.ref tb421), .unset] [])) t
          refine XS.aload X467.here hx rfl (hb hby at_334) rfl rfl ?_
          exact kt
        obtain ⟨cq481, kq481, q481a, q481b, q481c⟩ := isOf hZ2 rfl F474
        obtain ⟨_, _, ⟨T481, L481, k481, n481⟩, -, X481, ⟨Lc481, hQ481, l481, y481, z481⟩, st481⟩ := X467.virtualBack hx (y := (⟨"com/example/nestwarden/nestwarden/store/Journal$Change", "record", "()[B"⟩ : MethodName)) (z := (⟨"com/example/nestwarden/nestwarden/store/Journal$Change", "record", "()[B"⟩ : MethodName)) ho2 (mvT hZ2 (hw _ (List.mem_of_getElem? (i := 63) rfl))) (mvT hZ2 (hw _ (List.mem_of_getElem? (i := 64) rfl))) (notFace_of_selects (args := #[]) (mvT hZ2 (hw _ (List.mem_of_getElem? (i := 66) rfl)))) (mvT hZ2 (hw _ (List.mem_of_getElem? (i := 66) rfl))) (mvT hZ2 (hw _ (List.mem_of_getElem? (i := 65) rfl))) (by decide) (backOf (W := 0) (own_rm11 l Z a0 hw [] (r421) (tb421) T467.heap n0 (Nat.le_trans Z0 K478.1) F476) hZ2 (hw _ (List.mem_of_getElem? (i := 67) rfl)) (hw _ (List.mem_of_getElem? (i := 32) rfl)) (by decide) (by decide)) q481a q481c (g := (mkF m 336 #[.val (.int kc), .val (.int lens), .val (.int q0), .val (.int q1), .val (.int q2), .val (.int (lens &&& (3 : Int32))), .val (.int (((lens.toUInt32 >>> ((2 : Int32) &&& 31).toUInt32).toInt32) &&& (3 : Int32))), .val (.int ((kc &&& (255 : Int32)).toUInt32.toUInt16.toUInt32.toInt32)), .val (.int ((((kc.toUInt32 >>> ((8 : Int32) &&& 31).toUInt32).toInt32) &&& (255 : Int32)).toUInt32.toUInt16.toUInt32.toInt32)), .val (.int ((((kc.toUInt32 >>> ((16 : Int32) &&& 31).toUInt32).toInt32) &&& (255 : Int32)).toUInt32.toUInt16.toUInt32.toInt32)), .val (.ref ky), .val (.int (q0.toInt8.toInt32)), .val (.int (q1.toInt8.toInt32)), .val (.int (q2.toInt8.toInt32)), .val (.ref b393), .val (.ref r421), .val (.ref ky), .val (.ref tb421), .unset] [(.ref r421)])) rfl (by rw [hml]; rfl) (Steps.refl _) (argsL := []) (rest := []) (lenOf own_pd9 rfl) rfl (by show 2 * 0 + _ ≤ _; exact Nat.le_of_eq rfl) (hb hby at_336) (fun _ _ => ⟨rfl, rfl, (by decide : 11 + 0 ≤ _), (by decide : 70 + 0 ≤ _)⟩)
        dsimp only [Pt.U, Pt.locs, Pt.cells, Pt.slots] at X481 l481 y481 z481 st481 hQ481
        subst l481 y481 z481
        obtain ⟨rfl, rfl, eq479⟩ := hQ481
        try rw [List.append_nil] at X481
        have S482 : ∀ t, Steps p.tables e below (T481.setTop (mkF m 339 #[.val (.int kc), .val (.int lens), .val (.int q0), .val (.int q1), .val (.int q2), .val (.int (lens &&& (3 : Int32))), .val (.int (((lens.toUInt32 >>> ((2 : Int32) &&& 31).toUInt32).toInt32) &&& (3 : Int32))), .val (.int ((kc &&& (255 : Int32)).toUInt32.toUInt16.toUInt32.toInt32)), .val (.int ((((kc.toUInt32 >>> ((8 : Int32) &&& 31).toUInt32).toInt32) &&& (255 : Int32)).toUInt32.toUInt16.toUInt32.toInt32)), .val (.int ((((kc.toUInt32 >>> ((16 : Int32) &&& 31).toUInt32).toInt32) &&& (255 : Int32)).toUInt32.toUInt16.toUInt32.toInt32)), .val (.ref ky), .val (.int (q0.toInt8.toInt32)), .val (.int (q1.toInt8.toInt32)), .val (.int (q2.toInt8.toInt32)), .val (.ref b393), .val (.ref r421), .val (.ref ky), .val (.ref tb421), .unset] [(.ref tb421)])) t → Steps p.tables e below (s₁.setTop (entryFrame m #[(.int kc), (.int lens), (.int q0), (.int q1), (.int q2)] maxLocals)) t := fun t kt => S480 t (st481.trans kt)
        have S483 : ∀ t, Steps p.tables e below (T481.setTop (mkF m 343 #[.val (.int kc), .val (.int lens), .val (.int q0), .val (.int q1), .val (.int q2), .val (.int (lens &&& (3 : Int32))), .val (.int (((lens.toUInt32 >>> ((2 : Int32) &&& 31).toUInt32).toInt32) &&& (3 : Int32))), .val (.int ((kc &&& (255 : Int32)).toUInt32.toUInt16.toUInt32.toInt32)), .val (.int ((((kc.toUInt32 >>> ((8 : Int32) &&& 31).toUInt32).toInt32) &&& (255 : Int32)).toUInt32.toUInt16.toUInt32.toInt32)), .val (.int ((((kc.toUInt32 >>> ((16 : Int32) &&& 31).toUInt32).toInt32) &&& (255 : Int32)).toUInt32.toUInt16.toUInt32.toInt32)), .val (.ref ky), .val (.int (q0.toInt8.toInt32)), .val (.int (q1.toInt8.toInt32)), .val (.int (q2.toInt8.toInt32)), .val (.ref b393), .val (.ref r421), .val (.ref ky), .val (.ref tb421), .val (.ref tb421)] [(.ref tb421)])) t → Steps p.tables e below (s₁.setTop (entryFrame m #[(.int kc), (.int lens), (.int q0), (.int q1), (.int q2)] maxLocals)) t := fun t kt => by
          refine S482 t ?_
          show Steps p.tables e below (T481.setTop (mkF m 339 #[.val (.int kc), .val (.int lens), .val (.int q0), .val (.int q1), .val (.int q2), .val (.int (lens &&& (3 : Int32))), .val (.int (((lens.toUInt32 >>> ((2 : Int32) &&& 31).toUInt32).toInt32) &&& (3 : Int32))), .val (.int ((kc &&& (255 : Int32)).toUInt32.toUInt16.toUInt32.toInt32)), .val (.int ((((kc.toUInt32 >>> ((8 : Int32) &&& 31).toUInt32).toInt32) &&& (255 : Int32)).toUInt32.toUInt16.toUInt32.toInt32)), .val (.int ((((kc.toUInt32 >>> ((16 : Int32) &&& 31).toUInt32).toInt32) &&& (255 : Int32)).toUInt32.toUInt16.toUInt32.toInt32)), .val (.ref ky), .val (.int (q0.toInt8.toInt32)), .val (.int (q1.toInt8.toInt32)), .val (.int (q2.toInt8.toInt32)), .val (.ref b393), .val (.ref r421), .val (.ref ky), .val (.ref tb421), .unset] [(.ref tb421)])) t
          refine XS.astore X481.here hx rfl (hb hby at_339) rfl rfl (l' := #[.val (.int kc), .val (.int lens), .val (.int q0), .val (.int q1), .val (.int q2), .val (.int (lens &&& (3 : Int32))), .val (.int (((lens.toUInt32 >>> ((2 : Int32) &&& 31).toUInt32).toInt32) &&& (3 : Int32))), .val (.int ((kc &&& (255 : Int32)).toUInt32.toUInt16.toUInt32.toInt32)), .val (.int ((((kc.toUInt32 >>> ((8 : Int32) &&& 31).toUInt32).toInt32) &&& (255 : Int32)).toUInt32.toUInt16.toUInt32.toInt32)), .val (.int ((((kc.toUInt32 >>> ((16 : Int32) &&& 31).toUInt32).toInt32) &&& (255 : Int32)).toUInt32.toUInt16.toUInt32.toInt32)), .val (.ref ky), .val (.int (q0.toInt8.toInt32)), .val (.int (q1.toInt8.toInt32)), .val (.int (q2.toInt8.toInt32)), .val (.ref b393), .val (.ref r421), .val (.ref ky), .val (.ref tb421), .val (.ref tb421)]) rfl ?_
          refine XS.aload X481.here hx rfl (hb hby at_341) rfl rfl ?_
          exact kt
        have S484 : ∀ t, Steps p.tables e below (T481.setTop (mkF m 348 #[.val (.int kc), .val (.int lens), .val (.int q0), .val (.int q1), .val (.int q2), .val (.int (lens &&& (3 : Int32))), .val (.int (((lens.toUInt32 >>> ((2 : Int32) &&& 31).toUInt32).toInt32) &&& (3 : Int32))), .val (.int ((kc &&& (255 : Int32)).toUInt32.toUInt16.toUInt32.toInt32)), .val (.int ((((kc.toUInt32 >>> ((8 : Int32) &&& 31).toUInt32).toInt32) &&& (255 : Int32)).toUInt32.toUInt16.toUInt32.toInt32)), .val (.int ((((kc.toUInt32 >>> ((16 : Int32) &&& 31).toUInt32).toInt32) &&& (255 : Int32)).toUInt32.toUInt16.toUInt32.toInt32)), .val (.ref ky), .val (.int (q0.toInt8.toInt32)), .val (.int (q1.toInt8.toInt32)), .val (.int (q2.toInt8.toInt32)), .val (.ref b393), .val (.ref r421), .val (.ref ky), .val (.ref tb421), .val (.ref tb421)] [(.ref tb421)])) t → Steps p.tables e below (s₁.setTop (entryFrame m #[(.int kc), (.int lens), (.int q0), (.int q1), (.int q2)] maxLocals)) t := fun t kt => by
          refine S483 t ?_
          show Steps p.tables e below (T481.setTop (mkF m 343 #[.val (.int kc), .val (.int lens), .val (.int q0), .val (.int q1), .val (.int q2), .val (.int (lens &&& (3 : Int32))), .val (.int (((lens.toUInt32 >>> ((2 : Int32) &&& 31).toUInt32).toInt32) &&& (3 : Int32))), .val (.int ((kc &&& (255 : Int32)).toUInt32.toUInt16.toUInt32.toInt32)), .val (.int ((((kc.toUInt32 >>> ((8 : Int32) &&& 31).toUInt32).toInt32) &&& (255 : Int32)).toUInt32.toUInt16.toUInt32.toInt32)), .val (.int ((((kc.toUInt32 >>> ((16 : Int32) &&& 31).toUInt32).toInt32) &&& (255 : Int32)).toUInt32.toUInt16.toUInt32.toInt32)), .val (.ref ky), .val (.int (q0.toInt8.toInt32)), .val (.int (q1.toInt8.toInt32)), .val (.int (q2.toInt8.toInt32)), .val (.ref b393), .val (.ref r421), .val (.ref ky), .val (.ref tb421), .val (.ref tb421)] [(.ref tb421)])) t
          refine XS.ifnullNo X481.here hx rfl (hb hby at_343) rfl ?_
          refine XS.aload X481.here hx rfl (hb hby at_346) rfl rfl ?_
          exact kt
        obtain ⟨cl485, Ar485, -, Sz485, Nn485, -, -⟩ := id F477
        have S486 : ∀ t, Steps p.tables e below (T481.setTop (mkF m 351 #[.val (.int kc), .val (.int lens), .val (.int q0), .val (.int q1), .val (.int q2), .val (.int (lens &&& (3 : Int32))), .val (.int (((lens.toUInt32 >>> ((2 : Int32) &&& 31).toUInt32).toInt32) &&& (3 : Int32))), .val (.int ((kc &&& (255 : Int32)).toUInt32.toUInt16.toUInt32.toInt32)), .val (.int ((((kc.toUInt32 >>> ((8 : Int32) &&& 31).toUInt32).toInt32) &&& (255 : Int32)).toUInt32.toUInt16.toUInt32.toInt32)), .val (.int ((((kc.toUInt32 >>> ((16 : Int32) &&& 31).toUInt32).toInt32) &&& (255 : Int32)).toUInt32.toUInt16.toUInt32.toInt32)), .val (.ref ky), .val (.int (q0.toInt8.toInt32)), .val (.int (q1.toInt8.toInt32)), .val (.int (q2.toInt8.toInt32)), .val (.ref b393), .val (.ref r421), .val (.ref ky), .val (.ref tb421), .val (.ref tb421)] [(.int (((lens.toUInt32 >>> ((2 : Int32) &&& 31).toUInt32).toInt32) &&& (3 : Int32))), (.int (2 : Int32))])) t → Steps p.tables e below (s₁.setTop (entryFrame m #[(.int kc), (.int lens), (.int q0), (.int q1), (.int q2)] maxLocals)) t := fun t kt => by
          refine S484 t ?_
          show Steps p.tables e below (T481.setTop (mkF m 348 #[.val (.int kc), .val (.int lens), .val (.int q0), .val (.int q1), .val (.int q2), .val (.int (lens &&& (3 : Int32))), .val (.int (((lens.toUInt32 >>> ((2 : Int32) &&& 31).toUInt32).toInt32) &&& (3 : Int32))), .val (.int ((kc &&& (255 : Int32)).toUInt32.toUInt16.toUInt32.toInt32)), .val (.int ((((kc.toUInt32 >>> ((8 : Int32) &&& 31).toUInt32).toInt32) &&& (255 : Int32)).toUInt32.toUInt16.toUInt32.toInt32)), .val (.int ((((kc.toUInt32 >>> ((16 : Int32) &&& 31).toUInt32).toInt32) &&& (255 : Int32)).toUInt32.toUInt16.toUInt32.toInt32)), .val (.ref ky), .val (.int (q0.toInt8.toInt32)), .val (.int (q1.toInt8.toInt32)), .val (.int (q2.toInt8.toInt32)), .val (.ref b393), .val (.ref r421), .val (.ref ky), .val (.ref tb421), .val (.ref tb421)] [(.ref tb421)])) t
          refine X481.arraylength hx (by rw [(eq479.trans rfl)]; exact Ar485.1) (State.isArrayOf_alike hZ2.alike Ar485.2.1) (g := (mkF m 348 #[.val (.int kc), .val (.int lens), .val (.int q0), .val (.int q1), .val (.int q2), .val (.int (lens &&& (3 : Int32))), .val (.int (((lens.toUInt32 >>> ((2 : Int32) &&& 31).toUInt32).toInt32) &&& (3 : Int32))), .val (.int ((kc &&& (255 : Int32)).toUInt32.toUInt16.toUInt32.toInt32)), .val (.int ((((kc.toUInt32 >>> ((8 : Int32) &&& 31).toUInt32).toInt32) &&& (255 : Int32)).toUInt32.toUInt16.toUInt32.toInt32)), .val (.int ((((kc.toUInt32 >>> ((16 : Int32) &&& 31).toUInt32).toInt32) &&& (255 : Int32)).toUInt32.toUInt16.toUInt32.toInt32)), .val (.ref ky), .val (.int (q0.toInt8.toInt32)), .val (.int (q1.toInt8.toInt32)), .val (.int (q2.toInt8.toInt32)), .val (.ref b393), .val (.ref r421), .val (.ref ky), .val (.ref tb421), .val (.ref tb421)] [(.ref tb421)])) rfl rfl (hb hby at_348) _ ?_
          rw [len_of Sz485 Nn485]
          show Steps p.tables e below (T481.setTop (mkF m 349 #[.val (.int kc), .val (.int lens), .val (.int q0), .val (.int q1), .val (.int q2), .val (.int (lens &&& (3 : Int32))), .val (.int (((lens.toUInt32 >>> ((2 : Int32) &&& 31).toUInt32).toInt32) &&& (3 : Int32))), .val (.int ((kc &&& (255 : Int32)).toUInt32.toUInt16.toUInt32.toInt32)), .val (.int ((((kc.toUInt32 >>> ((8 : Int32) &&& 31).toUInt32).toInt32) &&& (255 : Int32)).toUInt32.toUInt16.toUInt32.toInt32)), .val (.int ((((kc.toUInt32 >>> ((16 : Int32) &&& 31).toUInt32).toInt32) &&& (255 : Int32)).toUInt32.toUInt16.toUInt32.toInt32)), .val (.ref ky), .val (.int (q0.toInt8.toInt32)), .val (.int (q1.toInt8.toInt32)), .val (.int (q2.toInt8.toInt32)), .val (.ref b393), .val (.ref r421), .val (.ref ky), .val (.ref tb421), .val (.ref tb421)] [(.int (2 : Int32))])) t
          refine XS.iload X481.here hx rfl (hb hby at_349) rfl ?_
          exact kt
        have hc351_487 : (2 : Int32) = (((lens.toUInt32 >>> ((2 : Int32) &&& 31).toUInt32).toInt32) &&& (3 : Int32)) := hc194.symm
        have S489 : ∀ t, Steps p.tables e below (T481.setTop (mkF m 362 #[.val (.int kc), .val (.int lens), .val (.int q0), .val (.int q1), .val (.int q2), .val (.int (lens &&& (3 : Int32))), .val (.int (((lens.toUInt32 >>> ((2 : Int32) &&& 31).toUInt32).toInt32) &&& (3 : Int32))), .val (.int ((kc &&& (255 : Int32)).toUInt32.toUInt16.toUInt32.toInt32)), .val (.int ((((kc.toUInt32 >>> ((8 : Int32) &&& 31).toUInt32).toInt32) &&& (255 : Int32)).toUInt32.toUInt16.toUInt32.toInt32)), .val (.int ((((kc.toUInt32 >>> ((16 : Int32) &&& 31).toUInt32).toInt32) &&& (255 : Int32)).toUInt32.toUInt16.toUInt32.toInt32)), .val (.ref ky), .val (.int (q0.toInt8.toInt32)), .val (.int (q1.toInt8.toInt32)), .val (.int (q2.toInt8.toInt32)), .val (.ref b393), .val (.ref r421), .val (.ref ky), .val (.ref tb421), .val (.ref tb421)] [(.int (q2.toInt8.toInt32)), (.int (q1.toInt8.toInt32)), (.int (q0.toInt8.toInt32)), (.ref tb421)])) t → Steps p.tables e below (s₁.setTop (entryFrame m #[(.int kc), (.int lens), (.int q0), (.int q1), (.int q2)] maxLocals)) t := fun t kt => by
          refine S486 t ?_
          show Steps p.tables e below (T481.setTop (mkF m 351 #[.val (.int kc), .val (.int lens), .val (.int q0), .val (.int q1), .val (.int q2), .val (.int (lens &&& (3 : Int32))), .val (.int (((lens.toUInt32 >>> ((2 : Int32) &&& 31).toUInt32).toInt32) &&& (3 : Int32))), .val (.int ((kc &&& (255 : Int32)).toUInt32.toUInt16.toUInt32.toInt32)), .val (.int ((((kc.toUInt32 >>> ((8 : Int32) &&& 31).toUInt32).toInt32) &&& (255 : Int32)).toUInt32.toUInt16.toUInt32.toInt32)), .val (.int ((((kc.toUInt32 >>> ((16 : Int32) &&& 31).toUInt32).toInt32) &&& (255 : Int32)).toUInt32.toUInt16.toUInt32.toInt32)), .val (.ref ky), .val (.int (q0.toInt8.toInt32)), .val (.int (q1.toInt8.toInt32)), .val (.int (q2.toInt8.toInt32)), .val (.ref b393), .val (.ref r421), .val (.ref ky), .val (.ref tb421), .val (.ref tb421)] [(.int (((lens.toUInt32 >>> ((2 : Int32) &&& 31).toUInt32).toInt32) &&& (3 : Int32))), (.int (2 : Int32))])) t
          refine XS.icmpNo X481.here hx rfl (hb hby at_351) rfl (teq hc351_487).2 ?_
          refine XS.aload X481.here hx rfl (hb hby at_354) rfl rfl ?_
          refine XS.iload X481.here hx rfl (hb hby at_356) rfl ?_
          refine XS.iload X481.here hx rfl (hb hby at_358) rfl ?_
          refine XS.iload X481.here hx rfl (hb hby at_360) rfl ?_
          exact kt
        obtain ⟨_, _, ⟨T490, L490, k490, n490⟩, -, X490, ⟨Lc490, hQ490, l490, y490, z490⟩, st490⟩ := Jvm.LawKit.callS X481 hx (y := (⟨"com/example/nestwarden/nestwarden/store/ChangeKeepPinLaw", "same", "([BBBB)Z"⟩ : MethodName)) ho2 (mvT hZ2 (hw _ (List.mem_of_getElem? (i := 73) rfl))) (mvT hZ2 (hw _ (List.mem_of_getElem? (i := 74) rfl))) (mvT hZ2 (hw _ (List.mem_of_getElem? (i := 75) rfl))) (mvT hZ2 (hw _ (List.mem_of_getElem? (i := 76) rfl))) (by decide) (backOf (W := 0) (own_rm13n2 l Z a0 hw [] (tb421) ((q0.toInt8.toInt32)) ((q1.toInt8.toInt32)) ((q2.toInt8.toInt32)) ((nar .byte (q0.toInt8.toInt32))) ((nar .byte (q1.toInt8.toInt32))) (k393) T467.heap n0 (Nat.le_trans Z0 K478.1) F477 (own_lolo _) (own_lolo _)) hZ2 (hw _ (List.mem_of_getElem? (i := 76) rfl)) (hw _ (List.mem_of_getElem? (i := 75) rfl)) (by decide) (by decide)) (g := (mkF m 362 #[.val (.int kc), .val (.int lens), .val (.int q0), .val (.int q1), .val (.int q2), .val (.int (lens &&& (3 : Int32))), .val (.int (((lens.toUInt32 >>> ((2 : Int32) &&& 31).toUInt32).toInt32) &&& (3 : Int32))), .val (.int ((kc &&& (255 : Int32)).toUInt32.toUInt16.toUInt32.toInt32)), .val (.int ((((kc.toUInt32 >>> ((8 : Int32) &&& 31).toUInt32).toInt32) &&& (255 : Int32)).toUInt32.toUInt16.toUInt32.toInt32)), .val (.int ((((kc.toUInt32 >>> ((16 : Int32) &&& 31).toUInt32).toInt32) &&& (255 : Int32)).toUInt32.toUInt16.toUInt32.toInt32)), .val (.ref ky), .val (.int (q0.toInt8.toInt32)), .val (.int (q1.toInt8.toInt32)), .val (.int (q2.toInt8.toInt32)), .val (.ref b393), .val (.ref r421), .val (.ref ky), .val (.ref tb421), .val (.ref tb421)] [(.int (q2.toInt8.toInt32)), (.int (q1.toInt8.toInt32)), (.int (q0.toInt8.toInt32)), (.ref tb421)])) rfl (by rw [hml]; rfl) (argsL := [(.ref tb421), (.int (q0.toInt8.toInt32)), (.int (q1.toInt8.toInt32)), (.int (q2.toInt8.toInt32))]) (rest := []) (lenOf own_pd11 rfl) rfl (by show 2 * 0 + _ ≤ _; exact Nat.le_of_eq rfl) (hb hby at_362) (fun _ _ => ⟨rfl, (eq479.trans rfl), (by decide : 11 + 0 ≤ _), (by decide : 70 + 0 ≤ _)⟩)
        dsimp only [Pt.U, Pt.locs, Pt.cells, Pt.slots] at X490 l490 y490 z490 st490 hQ490
        subst l490 y490 z490
        obtain ⟨rfl, rfl, eq488⟩ := hQ490
        try rw [List.append_nil] at X490
        have S491 : ∀ t, Steps p.tables e below (T490.setTop (mkF m 365 #[.val (.int kc), .val (.int lens), .val (.int q0), .val (.int q1), .val (.int q2), .val (.int (lens &&& (3 : Int32))), .val (.int (((lens.toUInt32 >>> ((2 : Int32) &&& 31).toUInt32).toInt32) &&& (3 : Int32))), .val (.int ((kc &&& (255 : Int32)).toUInt32.toUInt16.toUInt32.toInt32)), .val (.int ((((kc.toUInt32 >>> ((8 : Int32) &&& 31).toUInt32).toInt32) &&& (255 : Int32)).toUInt32.toUInt16.toUInt32.toInt32)), .val (.int ((((kc.toUInt32 >>> ((16 : Int32) &&& 31).toUInt32).toInt32) &&& (255 : Int32)).toUInt32.toUInt16.toUInt32.toInt32)), .val (.ref ky), .val (.int (q0.toInt8.toInt32)), .val (.int (q1.toInt8.toInt32)), .val (.int (q2.toInt8.toInt32)), .val (.ref b393), .val (.ref r421), .val (.ref ky), .val (.ref tb421), .val (.ref tb421)] [(.int (1 : Int32))])) t → Steps p.tables e below (s₁.setTop (entryFrame m #[(.int kc), (.int lens), (.int q0), (.int q1), (.int q2)] maxLocals)) t := fun t kt => S489 t (st490 _ kt)
        have hc365_492 : ¬ ((1 : Int32) = (0 : Int32)) := by decide
        have S493 : ∀ t, Steps p.tables e below (T490.setTop (mkF m 373 #[.val (.int kc), .val (.int lens), .val (.int q0), .val (.int q1), .val (.int q2), .val (.int (lens &&& (3 : Int32))), .val (.int (((lens.toUInt32 >>> ((2 : Int32) &&& 31).toUInt32).toInt32) &&& (3 : Int32))), .val (.int ((kc &&& (255 : Int32)).toUInt32.toUInt16.toUInt32.toInt32)), .val (.int ((((kc.toUInt32 >>> ((8 : Int32) &&& 31).toUInt32).toInt32) &&& (255 : Int32)).toUInt32.toUInt16.toUInt32.toInt32)), .val (.int ((((kc.toUInt32 >>> ((16 : Int32) &&& 31).toUInt32).toInt32) &&& (255 : Int32)).toUInt32.toUInt16.toUInt32.toInt32)), .val (.ref ky), .val (.int (q0.toInt8.toInt32)), .val (.int (q1.toInt8.toInt32)), .val (.int (q2.toInt8.toInt32)), .val (.ref b393), .val (.ref r421), .val (.ref ky), .val (.ref tb421), .val (.ref tb421)] [(.int (1 : Int32))])) t → Steps p.tables e below (s₁.setTop (entryFrame m #[(.int kc), (.int lens), (.int q0), (.int q1), (.int q2)] maxLocals)) t := fun t kt => by
          refine S491 t ?_
          show Steps p.tables e below (T490.setTop (mkF m 365 #[.val (.int kc), .val (.int lens), .val (.int q0), .val (.int q1), .val (.int q2), .val (.int (lens &&& (3 : Int32))), .val (.int (((lens.toUInt32 >>> ((2 : Int32) &&& 31).toUInt32).toInt32) &&& (3 : Int32))), .val (.int ((kc &&& (255 : Int32)).toUInt32.toUInt16.toUInt32.toInt32)), .val (.int ((((kc.toUInt32 >>> ((8 : Int32) &&& 31).toUInt32).toInt32) &&& (255 : Int32)).toUInt32.toUInt16.toUInt32.toInt32)), .val (.int ((((kc.toUInt32 >>> ((16 : Int32) &&& 31).toUInt32).toInt32) &&& (255 : Int32)).toUInt32.toUInt16.toUInt32.toInt32)), .val (.ref ky), .val (.int (q0.toInt8.toInt32)), .val (.int (q1.toInt8.toInt32)), .val (.int (q2.toInt8.toInt32)), .val (.ref b393), .val (.ref r421), .val (.ref ky), .val (.ref tb421), .val (.ref tb421)] [(.int (1 : Int32))])) t
          refine XS.ifNo X490.here hx rfl (hb hby at_365) rfl ((if0 _ _).trans (feq hc365_492).1) ?_
          refine XS.iconst X490.here hx rfl (hb hby at_368) ?_
          refine XS.goto X490.here hx rfl (pc0 := 369) (pc' := 373) rfl (hb hby at_369) (by decide) (by decide) ?_
          exact kt
        obtain ⟨fs, hr, hrun, hended, -, hW, hBk, hsame⟩ := X490.leaveW hS2 (by rw [eq488]; exact (Nat.le_trans (Nat.le_trans (Nat.le_trans (Nat.le_trans (Nat.le_trans hk2 E393.1) (Keep.of_wr W401).1) (Keep.of_wr W412).1) Kc421.1) Kc464.1)) (v := some (.int (nar .boolean (1 : Int32)))) (fun h => by rw [Bd.returns] at h; cases h)
        refine ⟨_, _, S493 _ ?_, hrun, hended, _, _, rfl, ?_, (by show CHr Z own_EL s.vm s.heap T490.vm T490.heap; rw [hh, eq488]; exact CR471.trans (CHv.at X490 hZ2 hEL CR471.1)), ⟨_, rfl⟩, hW, hBk, hsame.mono (by decide) (by decide)⟩
        · show Steps p.tables e below (T490.setTop (mkF m 373 #[.val (.int kc), .val (.int lens), .val (.int q0), .val (.int q1), .val (.int q2), .val (.int (lens &&& (3 : Int32))), .val (.int (((lens.toUInt32 >>> ((2 : Int32) &&& 31).toUInt32).toInt32) &&& (3 : Int32))), .val (.int ((kc &&& (255 : Int32)).toUInt32.toUInt16.toUInt32.toInt32)), .val (.int ((((kc.toUInt32 >>> ((8 : Int32) &&& 31).toUInt32).toInt32) &&& (255 : Int32)).toUInt32.toUInt16.toUInt32.toInt32)), .val (.int ((((kc.toUInt32 >>> ((16 : Int32) &&& 31).toUInt32).toInt32) &&& (255 : Int32)).toUInt32.toUInt16.toUInt32.toInt32)), .val (.ref ky), .val (.int (q0.toInt8.toInt32)), .val (.int (q1.toInt8.toInt32)), .val (.int (q2.toInt8.toInt32)), .val (.ref b393), .val (.ref r421), .val (.ref ky), .val (.ref tb421), .val (.ref tb421)] [(.int (1 : Int32))])) _
          exact retN X490 hx (t := .boolean) Bd.returns (by simp) (hb hby at_373) hr
        · show own_Q0 Z kc lens q0 q1 q2 cs h0 n0 _ T490.heap _
          rw [eq488]
          exact ⟨rfl, N468⟩
      · skip
        have S494 : ∀ t, Steps p.tables e below (T2.setTop (mkF m 216 #[.val (.int kc), .val (.int lens), .val (.int q0), .val (.int q1), .val (.int q2), .val (.int (lens &&& (3 : Int32))), .val (.int (((lens.toUInt32 >>> ((2 : Int32) &&& 31).toUInt32).toInt32) &&& (3 : Int32))), .val (.int ((kc &&& (255 : Int32)).toUInt32.toUInt16.toUInt32.toInt32)), .val (.int ((((kc.toUInt32 >>> ((8 : Int32) &&& 31).toUInt32).toInt32) &&& (255 : Int32)).toUInt32.toUInt16.toUInt32.toInt32)), .val (.int ((((kc.toUInt32 >>> ((16 : Int32) &&& 31).toUInt32).toInt32) &&& (255 : Int32)).toUInt32.toUInt16.toUInt32.toInt32)), .val (.ref ky), .val (.int (q0.toInt8.toInt32)), .val (.int (q1.toInt8.toInt32)), .val (.int (q2.toInt8.toInt32)), .unset, .unset, .unset, .unset, .unset] [(.int (3 : Int32))])) t → Steps p.tables e below (s₁.setTop (entryFrame m #[(.int kc), (.int lens), (.int q0), (.int q1), (.int q2)] maxLocals)) t := fun t kt => by
          refine S391 t ?_
          show Steps p.tables e below (T2.setTop (mkF m 194 #[.val (.int kc), .val (.int lens), .val (.int q0), .val (.int q1), .val (.int q2), .val (.int (lens &&& (3 : Int32))), .val (.int (((lens.toUInt32 >>> ((2 : Int32) &&& 31).toUInt32).toInt32) &&& (3 : Int32))), .val (.int ((kc &&& (255 : Int32)).toUInt32.toUInt16.toUInt32.toInt32)), .val (.int ((((kc.toUInt32 >>> ((8 : Int32) &&& 31).toUInt32).toInt32) &&& (255 : Int32)).toUInt32.toUInt16.toUInt32.toInt32)), .val (.int ((((kc.toUInt32 >>> ((16 : Int32) &&& 31).toUInt32).toInt32) &&& (255 : Int32)).toUInt32.toUInt16.toUInt32.toInt32)), .val (.ref ky), .val (.int (q0.toInt8.toInt32)), .val (.int (q1.toInt8.toInt32)), .val (.int (q2.toInt8.toInt32)), .unset, .unset, .unset, .unset, .unset] [(.int (2 : Int32)), (.int (((lens.toUInt32 >>> ((2 : Int32) &&& 31).toUInt32).toInt32) &&& (3 : Int32)))])) t
          refine XS.icmpYes X2.here hx rfl (pc0 := 194) (pc' := 215) rfl (hb hby at_194) rfl (feq hc194).2 (by decide) (by decide) ?_
          refine XS.iconst X2.here hx rfl (hb hby at_215) ?_
          exact kt
        obtain ⟨T495, h495, k495, X495, e495, E495, A495, AE495, st495⟩ := newPE X2 hx hZ2 (hw _ (List.mem_of_getElem? (i := 19) rfl)) e2 (g := (mkF m 216 #[.val (.int kc), .val (.int lens), .val (.int q0), .val (.int q1), .val (.int q2), .val (.int (lens &&& (3 : Int32))), .val (.int (((lens.toUInt32 >>> ((2 : Int32) &&& 31).toUInt32).toInt32) &&& (3 : Int32))), .val (.int ((kc &&& (255 : Int32)).toUInt32.toUInt16.toUInt32.toInt32)), .val (.int ((((kc.toUInt32 >>> ((8 : Int32) &&& 31).toUInt32).toInt32) &&& (255 : Int32)).toUInt32.toUInt16.toUInt32.toInt32)), .val (.int ((((kc.toUInt32 >>> ((16 : Int32) &&& 31).toUInt32).toInt32) &&& (255 : Int32)).toUInt32.toUInt16.toUInt32.toInt32)), .val (.ref ky), .val (.int (q0.toInt8.toInt32)), .val (.int (q1.toInt8.toInt32)), .val (.int (q2.toInt8.toInt32)), .unset, .unset, .unset, .unset, .unset] [(.int (3 : Int32))])) rfl (hb hby at_216) rfl (by decide) (cap := 3) (by decide) (by decide) (by decide) (by decide) (ad := "[B") rfl
        obtain ⟨b495, g495⟩ : ∃ z, z = h2.size := ⟨_, rfl⟩
        rw [← g495] at A495 st495 AE495
        have S496 : ∀ t, Steps p.tables e below (T495.setTop (mkF m 218 #[.val (.int kc), .val (.int lens), .val (.int q0), .val (.int q1), .val (.int q2), .val (.int (lens &&& (3 : Int32))), .val (.int (((lens.toUInt32 >>> ((2 : Int32) &&& 31).toUInt32).toInt32) &&& (3 : Int32))), .val (.int ((kc &&& (255 : Int32)).toUInt32.toUInt16.toUInt32.toInt32)), .val (.int ((((kc.toUInt32 >>> ((8 : Int32) &&& 31).toUInt32).toInt32) &&& (255 : Int32)).toUInt32.toUInt16.toUInt32.toInt32)), .val (.int ((((kc.toUInt32 >>> ((16 : Int32) &&& 31).toUInt32).toInt32) &&& (255 : Int32)).toUInt32.toUInt16.toUInt32.toInt32)), .val (.ref ky), .val (.int (q0.toInt8.toInt32)), .val (.int (q1.toInt8.toInt32)), .val (.int (q2.toInt8.toInt32)), .unset, .unset, .unset, .unset, .unset] [(.ref b495)])) t → Steps p.tables e below (s₁.setTop (entryFrame m #[(.int kc), (.int lens), (.int q0), (.int q1), (.int q2)] maxLocals)) t := fun t kt => S494 t (st495 _ kt)
        have Sf_b495 : Safe Z own_EL vm2 h495 b495 := Safe.ext E495 CRj2.1 (Safe.new (Nat.le_of_eq g495.symm))
        have CR497 := CRj2.trans (CHr.ext E495 CRj2.1)
        have g_b495 : n0 ≤ b495 := Nat.le_trans (Nat.le_trans Z0 Kj2.1) (Nat.le_of_eq g495.symm)
        have sz_b495 : h0.size ≤ b495 := Nat.le_trans Kj2.1 (Nat.le_of_eq g495.symm)
        have ne_ky_b495 : ky ≠ b495 := Nat.ne_of_lt (Nat.lt_of_lt_of_le Fj2_0.lt (Nat.le_of_eq g495.symm))
        have F498 := Fj2_0.ext E495
        have K499 : Keep h0 h495 [] := Kj2.ext E495
        have V500 : Arv Z h495 b495 k495 .byte (3 : Int32) [(.int (0 : Int32)), (.int (0 : Int32)), (.int (0 : Int32))] (.int (0 : Int32)) := (Arv.new A495 (by decide)).pad (pad_rep [] (.int (0 : Int32)) 3)
        have S501 : ∀ t, Steps p.tables e below (T495.setTop (mkF m 222 #[.val (.int kc), .val (.int lens), .val (.int q0), .val (.int q1), .val (.int q2), .val (.int (lens &&& (3 : Int32))), .val (.int (((lens.toUInt32 >>> ((2 : Int32) &&& 31).toUInt32).toInt32) &&& (3 : Int32))), .val (.int ((kc &&& (255 : Int32)).toUInt32.toUInt16.toUInt32.toInt32)), .val (.int ((((kc.toUInt32 >>> ((8 : Int32) &&& 31).toUInt32).toInt32) &&& (255 : Int32)).toUInt32.toUInt16.toUInt32.toInt32)), .val (.int ((((kc.toUInt32 >>> ((16 : Int32) &&& 31).toUInt32).toInt32) &&& (255 : Int32)).toUInt32.toUInt16.toUInt32.toInt32)), .val (.ref ky), .val (.int (q0.toInt8.toInt32)), .val (.int (q1.toInt8.toInt32)), .val (.int (q2.toInt8.toInt32)), .unset, .unset, .unset, .unset, .unset] [(.int (q0.toInt8.toInt32)), (.int (0 : Int32)), (.ref b495), (.ref b495)])) t → Steps p.tables e below (s₁.setTop (entryFrame m #[(.int kc), (.int lens), (.int q0), (.int q1), (.int q2)] maxLocals)) t := fun t kt => by
          refine S496 t ?_
          show Steps p.tables e below (T495.setTop (mkF m 218 #[.val (.int kc), .val (.int lens), .val (.int q0), .val (.int q1), .val (.int q2), .val (.int (lens &&& (3 : Int32))), .val (.int (((lens.toUInt32 >>> ((2 : Int32) &&& 31).toUInt32).toInt32) &&& (3 : Int32))), .val (.int ((kc &&& (255 : Int32)).toUInt32.toUInt16.toUInt32.toInt32)), .val (.int ((((kc.toUInt32 >>> ((8 : Int32) &&& 31).toUInt32).toInt32) &&& (255 : Int32)).toUInt32.toUInt16.toUInt32.toInt32)), .val (.int ((((kc.toUInt32 >>> ((16 : Int32) &&& 31).toUInt32).toInt32) &&& (255 : Int32)).toUInt32.toUInt16.toUInt32.toInt32)), .val (.ref ky), .val (.int (q0.toInt8.toInt32)), .val (.int (q1.toInt8.toInt32)), .val (.int (q2.toInt8.toInt32)), .unset, .unset, .unset, .unset, .unset] [(.ref b495)])) t
          refine XS.dup X495.here hx rfl (hb hby at_218) rfl rfl ?_
          refine XS.iconst X495.here hx rfl (hb hby at_219) ?_
          refine XS.iload X495.here hx rfl (hb hby at_220) rfl ?_
          exact kt
        obtain ⟨cl502, Ar502, q502, Sz502, Nn502, Hh502, Gg502⟩ := id V500
        have hin502 : ¬ ((0 : Int32) < 0 ∨ cl502.slots.size ≤ ((0 : Int32)).toNatClampNeg) := inb_of Sz502 ⟨by decide, by decide⟩
        obtain ⟨T503, h503, X503, e503, W503, st503⟩ := stB X495 hx hZ2 e495 Ar502 (j := (0 : Int32)) hin502 (g := (mkF m 222 #[.val (.int kc), .val (.int lens), .val (.int q0), .val (.int q1), .val (.int q2), .val (.int (lens &&& (3 : Int32))), .val (.int (((lens.toUInt32 >>> ((2 : Int32) &&& 31).toUInt32).toInt32) &&& (3 : Int32))), .val (.int ((kc &&& (255 : Int32)).toUInt32.toUInt16.toUInt32.toInt32)), .val (.int ((((kc.toUInt32 >>> ((8 : Int32) &&& 31).toUInt32).toInt32) &&& (255 : Int32)).toUInt32.toUInt16.toUInt32.toInt32)), .val (.int ((((kc.toUInt32 >>> ((16 : Int32) &&& 31).toUInt32).toInt32) &&& (255 : Int32)).toUInt32.toUInt16.toUInt32.toInt32)), .val (.ref ky), .val (.int (q0.toInt8.toInt32)), .val (.int (q1.toInt8.toInt32)), .val (.int (q2.toInt8.toInt32)), .unset, .unset, .unset, .unset, .unset] [(.int (q0.toInt8.toInt32)), (.int (0 : Int32)), (.ref b495), (.ref b495)])) rfl rfl (hb hby at_222)
        have S504 : ∀ t, Steps p.tables e below (T503.setTop (mkF m 223 #[.val (.int kc), .val (.int lens), .val (.int q0), .val (.int q1), .val (.int q2), .val (.int (lens &&& (3 : Int32))), .val (.int (((lens.toUInt32 >>> ((2 : Int32) &&& 31).toUInt32).toInt32) &&& (3 : Int32))), .val (.int ((kc &&& (255 : Int32)).toUInt32.toUInt16.toUInt32.toInt32)), .val (.int ((((kc.toUInt32 >>> ((8 : Int32) &&& 31).toUInt32).toInt32) &&& (255 : Int32)).toUInt32.toUInt16.toUInt32.toInt32)), .val (.int ((((kc.toUInt32 >>> ((16 : Int32) &&& 31).toUInt32).toInt32) &&& (255 : Int32)).toUInt32.toUInt16.toUInt32.toInt32)), .val (.ref ky), .val (.int (q0.toInt8.toInt32)), .val (.int (q1.toInt8.toInt32)), .val (.int (q2.toInt8.toInt32)), .unset, .unset, .unset, .unset, .unset] [(.ref b495)])) t → Steps p.tables e below (s₁.setTop (entryFrame m #[(.int kc), (.int lens), (.int q0), (.int q1), (.int q2)] maxLocals)) t := fun t kt => S501 t (st503 _ kt)
        have V505 := Arv.set Ar502 q502 Sz502 Nn502 Hh502 Gg502 (fits_nar_byte _) W503 0 rfl (Nat.le_of_ble_eq_true rfl)
        have Sf506 := Safe.wr W503 Sf_b495 CR497.1 Sf_b495
        have CR507 := CR497.trans (CHr.wr W503 Sf_b495 CR497.1)
        have F508 := F498.wr W503
        have F509 := AE495.wr W503
        have N510 := Fr.snoc X503 Nj2 g_b495
        have K511 : Keep h0 h503 [] := K499.wr W503 (Or.inr sz_b495)
        have S512 : ∀ t, Steps p.tables e below (T503.setTop (mkF m 227 #[.val (.int kc), .val (.int lens), .val (.int q0), .val (.int q1), .val (.int q2), .val (.int (lens &&& (3 : Int32))), .val (.int (((lens.toUInt32 >>> ((2 : Int32) &&& 31).toUInt32).toInt32) &&& (3 : Int32))), .val (.int ((kc &&& (255 : Int32)).toUInt32.toUInt16.toUInt32.toInt32)), .val (.int ((((kc.toUInt32 >>> ((8 : Int32) &&& 31).toUInt32).toInt32) &&& (255 : Int32)).toUInt32.toUInt16.toUInt32.toInt32)), .val (.int ((((kc.toUInt32 >>> ((16 : Int32) &&& 31).toUInt32).toInt32) &&& (255 : Int32)).toUInt32.toUInt16.toUInt32.toInt32)), .val (.ref ky), .val (.int (q0.toInt8.toInt32)), .val (.int (q1.toInt8.toInt32)), .val (.int (q2.toInt8.toInt32)), .unset, .unset, .unset, .unset, .unset] [(.int (q1.toInt8.toInt32)), (.int (1 : Int32)), (.ref b495), (.ref b495)])) t → Steps p.tables e below (s₁.setTop (entryFrame m #[(.int kc), (.int lens), (.int q0), (.int q1), (.int q2)] maxLocals)) t := fun t kt => by
          refine S504 t ?_
          show Steps p.tables e below (T503.setTop (mkF m 223 #[.val (.int kc), .val (.int lens), .val (.int q0), .val (.int q1), .val (.int q2), .val (.int (lens &&& (3 : Int32))), .val (.int (((lens.toUInt32 >>> ((2 : Int32) &&& 31).toUInt32).toInt32) &&& (3 : Int32))), .val (.int ((kc &&& (255 : Int32)).toUInt32.toUInt16.toUInt32.toInt32)), .val (.int ((((kc.toUInt32 >>> ((8 : Int32) &&& 31).toUInt32).toInt32) &&& (255 : Int32)).toUInt32.toUInt16.toUInt32.toInt32)), .val (.int ((((kc.toUInt32 >>> ((16 : Int32) &&& 31).toUInt32).toInt32) &&& (255 : Int32)).toUInt32.toUInt16.toUInt32.toInt32)), .val (.ref ky), .val (.int (q0.toInt8.toInt32)), .val (.int (q1.toInt8.toInt32)), .val (.int (q2.toInt8.toInt32)), .unset, .unset, .unset, .unset, .unset] [(.ref b495)])) t
          refine XS.dup X503.here hx rfl (hb hby at_223) rfl rfl ?_
          refine XS.iconst X503.here hx rfl (hb hby at_224) ?_
          refine XS.iload X503.here hx rfl (hb hby at_225) rfl ?_
          exact kt
        obtain ⟨cl513, Ar513, q513, Sz513, Nn513, Hh513, Gg513⟩ := id V505
        have hin513 : ¬ ((1 : Int32) < 0 ∨ cl513.slots.size ≤ ((1 : Int32)).toNatClampNeg) := inb_of Sz513 ⟨by decide, by decide⟩
        obtain ⟨T514, h514, X514, e514, W514, st514⟩ := stB X503 hx hZ2 e503 Ar513 (j := (1 : Int32)) hin513 (g := (mkF m 227 #[.val (.int kc), .val (.int lens), .val (.int q0), .val (.int q1), .val (.int q2), .val (.int (lens &&& (3 : Int32))), .val (.int (((lens.toUInt32 >>> ((2 : Int32) &&& 31).toUInt32).toInt32) &&& (3 : Int32))), .val (.int ((kc &&& (255 : Int32)).toUInt32.toUInt16.toUInt32.toInt32)), .val (.int ((((kc.toUInt32 >>> ((8 : Int32) &&& 31).toUInt32).toInt32) &&& (255 : Int32)).toUInt32.toUInt16.toUInt32.toInt32)), .val (.int ((((kc.toUInt32 >>> ((16 : Int32) &&& 31).toUInt32).toInt32) &&& (255 : Int32)).toUInt32.toUInt16.toUInt32.toInt32)), .val (.ref ky), .val (.int (q0.toInt8.toInt32)), .val (.int (q1.toInt8.toInt32)), .val (.int (q2.toInt8.toInt32)), .unset, .unset, .unset, .unset, .unset] [(.int (q1.toInt8.toInt32)), (.int (1 : Int32)), (.ref b495), (.ref b495)])) rfl rfl (hb hby at_227)
        have S515 : ∀ t, Steps p.tables e below (T514.setTop (mkF m 228 #[.val (.int kc), .val (.int lens), .val (.int q0), .val (.int q1), .val (.int q2), .val (.int (lens &&& (3 : Int32))), .val (.int (((lens.toUInt32 >>> ((2 : Int32) &&& 31).toUInt32).toInt32) &&& (3 : Int32))), .val (.int ((kc &&& (255 : Int32)).toUInt32.toUInt16.toUInt32.toInt32)), .val (.int ((((kc.toUInt32 >>> ((8 : Int32) &&& 31).toUInt32).toInt32) &&& (255 : Int32)).toUInt32.toUInt16.toUInt32.toInt32)), .val (.int ((((kc.toUInt32 >>> ((16 : Int32) &&& 31).toUInt32).toInt32) &&& (255 : Int32)).toUInt32.toUInt16.toUInt32.toInt32)), .val (.ref ky), .val (.int (q0.toInt8.toInt32)), .val (.int (q1.toInt8.toInt32)), .val (.int (q2.toInt8.toInt32)), .unset, .unset, .unset, .unset, .unset] [(.ref b495)])) t → Steps p.tables e below (s₁.setTop (entryFrame m #[(.int kc), (.int lens), (.int q0), (.int q1), (.int q2)] maxLocals)) t := fun t kt => S512 t (st514 _ kt)
        have V516 := Arv.set Ar513 q513 Sz513 Nn513 Hh513 Gg513 (fits_nar_byte _) W514 1 rfl (Nat.le_of_ble_eq_true rfl)
        have Sf517 := Safe.wr W514 Sf506 CR507.1 Sf506
        have CR518 := CR507.trans (CHr.wr W514 Sf506 CR507.1)
        have F519 := F508.wr W514
        have F520 := F509.wr W514
        have N521 := Fr.snoc X514 N510 g_b495
        have K522 : Keep h0 h514 [] := K511.wr W514 (Or.inr sz_b495)
        have S523 : ∀ t, Steps p.tables e below (T514.setTop (mkF m 232 #[.val (.int kc), .val (.int lens), .val (.int q0), .val (.int q1), .val (.int q2), .val (.int (lens &&& (3 : Int32))), .val (.int (((lens.toUInt32 >>> ((2 : Int32) &&& 31).toUInt32).toInt32) &&& (3 : Int32))), .val (.int ((kc &&& (255 : Int32)).toUInt32.toUInt16.toUInt32.toInt32)), .val (.int ((((kc.toUInt32 >>> ((8 : Int32) &&& 31).toUInt32).toInt32) &&& (255 : Int32)).toUInt32.toUInt16.toUInt32.toInt32)), .val (.int ((((kc.toUInt32 >>> ((16 : Int32) &&& 31).toUInt32).toInt32) &&& (255 : Int32)).toUInt32.toUInt16.toUInt32.toInt32)), .val (.ref ky), .val (.int (q0.toInt8.toInt32)), .val (.int (q1.toInt8.toInt32)), .val (.int (q2.toInt8.toInt32)), .unset, .unset, .unset, .unset, .unset] [(.int (q2.toInt8.toInt32)), (.int (2 : Int32)), (.ref b495), (.ref b495)])) t → Steps p.tables e below (s₁.setTop (entryFrame m #[(.int kc), (.int lens), (.int q0), (.int q1), (.int q2)] maxLocals)) t := fun t kt => by
          refine S515 t ?_
          show Steps p.tables e below (T514.setTop (mkF m 228 #[.val (.int kc), .val (.int lens), .val (.int q0), .val (.int q1), .val (.int q2), .val (.int (lens &&& (3 : Int32))), .val (.int (((lens.toUInt32 >>> ((2 : Int32) &&& 31).toUInt32).toInt32) &&& (3 : Int32))), .val (.int ((kc &&& (255 : Int32)).toUInt32.toUInt16.toUInt32.toInt32)), .val (.int ((((kc.toUInt32 >>> ((8 : Int32) &&& 31).toUInt32).toInt32) &&& (255 : Int32)).toUInt32.toUInt16.toUInt32.toInt32)), .val (.int ((((kc.toUInt32 >>> ((16 : Int32) &&& 31).toUInt32).toInt32) &&& (255 : Int32)).toUInt32.toUInt16.toUInt32.toInt32)), .val (.ref ky), .val (.int (q0.toInt8.toInt32)), .val (.int (q1.toInt8.toInt32)), .val (.int (q2.toInt8.toInt32)), .unset, .unset, .unset, .unset, .unset] [(.ref b495)])) t
          refine XS.dup X514.here hx rfl (hb hby at_228) rfl rfl ?_
          refine XS.iconst X514.here hx rfl (hb hby at_229) ?_
          refine XS.iload X514.here hx rfl (hb hby at_230) rfl ?_
          exact kt
        obtain ⟨cl524, Ar524, q524, Sz524, Nn524, Hh524, Gg524⟩ := id V516
        have hin524 : ¬ ((2 : Int32) < 0 ∨ cl524.slots.size ≤ ((2 : Int32)).toNatClampNeg) := inb_of Sz524 ⟨by decide, by decide⟩
        obtain ⟨T525, h525, X525, e525, W525, st525⟩ := stB X514 hx hZ2 e514 Ar524 (j := (2 : Int32)) hin524 (g := (mkF m 232 #[.val (.int kc), .val (.int lens), .val (.int q0), .val (.int q1), .val (.int q2), .val (.int (lens &&& (3 : Int32))), .val (.int (((lens.toUInt32 >>> ((2 : Int32) &&& 31).toUInt32).toInt32) &&& (3 : Int32))), .val (.int ((kc &&& (255 : Int32)).toUInt32.toUInt16.toUInt32.toInt32)), .val (.int ((((kc.toUInt32 >>> ((8 : Int32) &&& 31).toUInt32).toInt32) &&& (255 : Int32)).toUInt32.toUInt16.toUInt32.toInt32)), .val (.int ((((kc.toUInt32 >>> ((16 : Int32) &&& 31).toUInt32).toInt32) &&& (255 : Int32)).toUInt32.toUInt16.toUInt32.toInt32)), .val (.ref ky), .val (.int (q0.toInt8.toInt32)), .val (.int (q1.toInt8.toInt32)), .val (.int (q2.toInt8.toInt32)), .unset, .unset, .unset, .unset, .unset] [(.int (q2.toInt8.toInt32)), (.int (2 : Int32)), (.ref b495), (.ref b495)])) rfl rfl (hb hby at_232)
        have S526 : ∀ t, Steps p.tables e below (T525.setTop (mkF m 233 #[.val (.int kc), .val (.int lens), .val (.int q0), .val (.int q1), .val (.int q2), .val (.int (lens &&& (3 : Int32))), .val (.int (((lens.toUInt32 >>> ((2 : Int32) &&& 31).toUInt32).toInt32) &&& (3 : Int32))), .val (.int ((kc &&& (255 : Int32)).toUInt32.toUInt16.toUInt32.toInt32)), .val (.int ((((kc.toUInt32 >>> ((8 : Int32) &&& 31).toUInt32).toInt32) &&& (255 : Int32)).toUInt32.toUInt16.toUInt32.toInt32)), .val (.int ((((kc.toUInt32 >>> ((16 : Int32) &&& 31).toUInt32).toInt32) &&& (255 : Int32)).toUInt32.toUInt16.toUInt32.toInt32)), .val (.ref ky), .val (.int (q0.toInt8.toInt32)), .val (.int (q1.toInt8.toInt32)), .val (.int (q2.toInt8.toInt32)), .unset, .unset, .unset, .unset, .unset] [(.ref b495)])) t → Steps p.tables e below (s₁.setTop (entryFrame m #[(.int kc), (.int lens), (.int q0), (.int q1), (.int q2)] maxLocals)) t := fun t kt => S523 t (st525 _ kt)
        have V527 := Arv.set Ar524 q524 Sz524 Nn524 Hh524 Gg524 (fits_nar_byte _) W525 2 rfl (Nat.le_of_ble_eq_true rfl)
        have Sf528 := Safe.wr W525 Sf517 CR518.1 Sf517
        have CR529 := CR518.trans (CHr.wr W525 Sf517 CR518.1)
        have F530 := F519.wr W525
        have F531 := F520.wr W525
        have N532 := Fr.snoc X525 N521 g_b495
        have K533 : Keep h0 h525 [] := K522.wr W525 (Or.inr sz_b495)
        have S536 : ∀ t, Steps p.tables e below (T525.setTop (mkF m 239 #[.val (.int kc), .val (.int lens), .val (.int q0), .val (.int q1), .val (.int q2), .val (.int (lens &&& (3 : Int32))), .val (.int (((lens.toUInt32 >>> ((2 : Int32) &&& 31).toUInt32).toInt32) &&& (3 : Int32))), .val (.int ((kc &&& (255 : Int32)).toUInt32.toUInt16.toUInt32.toInt32)), .val (.int ((((kc.toUInt32 >>> ((8 : Int32) &&& 31).toUInt32).toInt32) &&& (255 : Int32)).toUInt32.toUInt16.toUInt32.toInt32)), .val (.int ((((kc.toUInt32 >>> ((16 : Int32) &&& 31).toUInt32).toInt32) &&& (255 : Int32)).toUInt32.toUInt16.toUInt32.toInt32)), .val (.ref ky), .val (.int (q0.toInt8.toInt32)), .val (.int (q1.toInt8.toInt32)), .val (.int (q2.toInt8.toInt32)), .val (.ref b495), .unset, .unset, .unset, .unset] [(.ref b495), (.ref ky)])) t → Steps p.tables e below (s₁.setTop (entryFrame m #[(.int kc), (.int lens), (.int q0), (.int q1), (.int q2)] maxLocals)) t := fun t kt => by
          refine S526 t ?_
          show Steps p.tables e below (T525.setTop (mkF m 233 #[.val (.int kc), .val (.int lens), .val (.int q0), .val (.int q1), .val (.int q2), .val (.int (lens &&& (3 : Int32))), .val (.int (((lens.toUInt32 >>> ((2 : Int32) &&& 31).toUInt32).toInt32) &&& (3 : Int32))), .val (.int ((kc &&& (255 : Int32)).toUInt32.toUInt16.toUInt32.toInt32)), .val (.int ((((kc.toUInt32 >>> ((8 : Int32) &&& 31).toUInt32).toInt32) &&& (255 : Int32)).toUInt32.toUInt16.toUInt32.toInt32)), .val (.int ((((kc.toUInt32 >>> ((16 : Int32) &&& 31).toUInt32).toInt32) &&& (255 : Int32)).toUInt32.toUInt16.toUInt32.toInt32)), .val (.ref ky), .val (.int (q0.toInt8.toInt32)), .val (.int (q1.toInt8.toInt32)), .val (.int (q2.toInt8.toInt32)), .unset, .unset, .unset, .unset, .unset] [(.ref b495)])) t
          refine XS.astore X525.here hx rfl (hb hby at_233) rfl rfl (l' := #[.val (.int kc), .val (.int lens), .val (.int q0), .val (.int q1), .val (.int q2), .val (.int (lens &&& (3 : Int32))), .val (.int (((lens.toUInt32 >>> ((2 : Int32) &&& 31).toUInt32).toInt32) &&& (3 : Int32))), .val (.int ((kc &&& (255 : Int32)).toUInt32.toUInt16.toUInt32.toInt32)), .val (.int ((((kc.toUInt32 >>> ((8 : Int32) &&& 31).toUInt32).toInt32) &&& (255 : Int32)).toUInt32.toUInt16.toUInt32.toInt32)), .val (.int ((((kc.toUInt32 >>> ((16 : Int32) &&& 31).toUInt32).toInt32) &&& (255 : Int32)).toUInt32.toUInt16.toUInt32.toInt32)), .val (.ref ky), .val (.int (q0.toInt8.toInt32)), .val (.int (q1.toInt8.toInt32)), .val (.int (q2.toInt8.toInt32)), .val (.ref b495), .unset, .unset, .unset, .unset]) rfl ?_
          refine XS.aload X525.here hx rfl (hb hby at_235) rfl rfl ?_
          refine XS.aload X525.here hx rfl (hb hby at_237) rfl rfl ?_
          exact kt
        obtain ⟨_, _, ⟨T537, L537, k537, n537⟩, -, X537, ⟨Lc537, hQ537, l537, y537, z537⟩, st537⟩ := Jvm.LawKit.callS X525 hx (y := (⟨"com/example/nestwarden/nestwarden/store/Journal$Change", "keep", "(Ljava/lang/String;[B)Lcom/example/nestwarden/nestwarden/store/Journal$Change;"⟩ : MethodName)) ho2 (mvT hZ2 (hw _ (List.mem_of_getElem? (i := 30) rfl))) (mvT hZ2 (hw _ (List.mem_of_getElem? (i := 31) rfl))) (mvT hZ2 (hw _ (List.mem_of_getElem? (i := 32) rfl))) (mvT hZ2 (hw _ (List.mem_of_getElem? (i := 33) rfl))) (by decide) (backOf (W := 0) (own_rm7n3 l Z a0 hw [] (ky) (b495) ((nar .byte (q0.toInt8.toInt32))) ((nar .byte (q1.toInt8.toInt32))) ((nar .byte (q2.toInt8.toInt32))) (k495) h525 n0 (Nat.le_trans Z0 K533.1) V527 F531) hZ2 (hw _ (List.mem_of_getElem? (i := 33) rfl)) (hw _ (List.mem_of_getElem? (i := 32) rfl)) (by decide) (by decide)) (g := (mkF m 239 #[.val (.int kc), .val (.int lens), .val (.int q0), .val (.int q1), .val (.int q2), .val (.int (lens &&& (3 : Int32))), .val (.int (((lens.toUInt32 >>> ((2 : Int32) &&& 31).toUInt32).toInt32) &&& (3 : Int32))), .val (.int ((kc &&& (255 : Int32)).toUInt32.toUInt16.toUInt32.toInt32)), .val (.int ((((kc.toUInt32 >>> ((8 : Int32) &&& 31).toUInt32).toInt32) &&& (255 : Int32)).toUInt32.toUInt16.toUInt32.toInt32)), .val (.int ((((kc.toUInt32 >>> ((16 : Int32) &&& 31).toUInt32).toInt32) &&& (255 : Int32)).toUInt32.toUInt16.toUInt32.toInt32)), .val (.ref ky), .val (.int (q0.toInt8.toInt32)), .val (.int (q1.toInt8.toInt32)), .val (.int (q2.toInt8.toInt32)), .val (.ref b495), .unset, .unset, .unset, .unset] [(.ref b495), (.ref ky)])) rfl (by rw [hml]; rfl) (argsL := [(.ref ky), (.ref b495)]) (rest := []) (lenOf own_pd7 rfl) rfl (by show 2 * 0 + _ ≤ _; exact Nat.le_of_eq rfl) (hb hby at_239) (fun _ _ => ⟨rfl, e525, (by decide : 9 + 2 ≤ _), (by decide : 67 + 5 ≤ _)⟩)
        dsimp only [Pt.U, Pt.locs, Pt.cells, Pt.slots] at X537 l537 y537 z537 st537 hQ537
        subst l537 y537 z537
        obtain ⟨r534, tb534, rfl, Nq537, gt534, sz534, Kc534, Ec534, Fk534, Fr534, Va534⟩ := hQ537
        have N538 := Fr.app N532 Nq537
        have S539 : ∀ t, Steps p.tables e below (T537.setTop (mkF m 242 #[.val (.int kc), .val (.int lens), .val (.int q0), .val (.int q1), .val (.int q2), .val (.int (lens &&& (3 : Int32))), .val (.int (((lens.toUInt32 >>> ((2 : Int32) &&& 31).toUInt32).toInt32) &&& (3 : Int32))), .val (.int ((kc &&& (255 : Int32)).toUInt32.toUInt16.toUInt32.toInt32)), .val (.int ((((kc.toUInt32 >>> ((8 : Int32) &&& 31).toUInt32).toInt32) &&& (255 : Int32)).toUInt32.toUInt16.toUInt32.toInt32)), .val (.int ((((kc.toUInt32 >>> ((16 : Int32) &&& 31).toUInt32).toInt32) &&& (255 : Int32)).toUInt32.toUInt16.toUInt32.toInt32)), .val (.ref ky), .val (.int (q0.toInt8.toInt32)), .val (.int (q1.toInt8.toInt32)), .val (.int (q2.toInt8.toInt32)), .val (.ref b495), .unset, .unset, .unset, .unset] [(.ref r534)])) t → Steps p.tables e below (s₁.setTop (entryFrame m #[(.int kc), (.int lens), (.int q0), (.int q1), (.int q2)] maxLocals)) t := fun t kt => S536 t (st537 _ kt)
        have Sf540 := Safe.keep Kc534 all0 CR529.1 Sf528
        have CR541 := CR529.trans (CHr.keep Kc534 all0 CR529.1)
        have F542 := F530.keep Kc534
        have F543 := F531.keep Kc534
        have F544 := V527.keep Kc534 nin0
        have K545 : Keep h0 T537.heap [] := K533.trans Kc534 all0
        have ne_ky_tb534 : ky ≠ tb534 := Nat.ne_of_lt (Nat.lt_of_lt_of_le F530.lt sz534)
        have ne_b495_tb534 : b495 ≠ tb534 := Nat.ne_of_lt (Nat.lt_of_lt_of_le F531.lt sz534)
        have S547 : ∀ t, Steps p.tables e below (T537.setTop (mkF m 246 #[.val (.int kc), .val (.int lens), .val (.int q0), .val (.int q1), .val (.int q2), .val (.int (lens &&& (3 : Int32))), .val (.int (((lens.toUInt32 >>> ((2 : Int32) &&& 31).toUInt32).toInt32) &&& (3 : Int32))), .val (.int ((kc &&& (255 : Int32)).toUInt32.toUInt16.toUInt32.toInt32)), .val (.int ((((kc.toUInt32 >>> ((8 : Int32) &&& 31).toUInt32).toInt32) &&& (255 : Int32)).toUInt32.toUInt16.toUInt32.toInt32)), .val (.int ((((kc.toUInt32 >>> ((16 : Int32) &&& 31).toUInt32).toInt32) &&& (255 : Int32)).toUInt32.toUInt16.toUInt32.toInt32)), .val (.ref ky), .val (.int (q0.toInt8.toInt32)), .val (.int (q1.toInt8.toInt32)), .val (.int (q2.toInt8.toInt32)), .val (.ref b495), .val (.ref r534), .unset, .unset, .unset] [(.ref r534)])) t → Steps p.tables e below (s₁.setTop (entryFrame m #[(.int kc), (.int lens), (.int q0), (.int q1), (.int q2)] maxLocals)) t := fun t kt => by
          refine S539 t ?_
          show Steps p.tables e below (T537.setTop (mkF m 242 #[.val (.int kc), .val (.int lens), .val (.int q0), .val (.int q1), .val (.int q2), .val (.int (lens &&& (3 : Int32))), .val (.int (((lens.toUInt32 >>> ((2 : Int32) &&& 31).toUInt32).toInt32) &&& (3 : Int32))), .val (.int ((kc &&& (255 : Int32)).toUInt32.toUInt16.toUInt32.toInt32)), .val (.int ((((kc.toUInt32 >>> ((8 : Int32) &&& 31).toUInt32).toInt32) &&& (255 : Int32)).toUInt32.toUInt16.toUInt32.toInt32)), .val (.int ((((kc.toUInt32 >>> ((16 : Int32) &&& 31).toUInt32).toInt32) &&& (255 : Int32)).toUInt32.toUInt16.toUInt32.toInt32)), .val (.ref ky), .val (.int (q0.toInt8.toInt32)), .val (.int (q1.toInt8.toInt32)), .val (.int (q2.toInt8.toInt32)), .val (.ref b495), .unset, .unset, .unset, .unset] [(.ref r534)])) t
          refine XS.astore X537.here hx rfl (hb hby at_242) rfl rfl (l' := #[.val (.int kc), .val (.int lens), .val (.int q0), .val (.int q1), .val (.int q2), .val (.int (lens &&& (3 : Int32))), .val (.int (((lens.toUInt32 >>> ((2 : Int32) &&& 31).toUInt32).toInt32) &&& (3 : Int32))), .val (.int ((kc &&& (255 : Int32)).toUInt32.toUInt16.toUInt32.toInt32)), .val (.int ((((kc.toUInt32 >>> ((8 : Int32) &&& 31).toUInt32).toInt32) &&& (255 : Int32)).toUInt32.toUInt16.toUInt32.toInt32)), .val (.int ((((kc.toUInt32 >>> ((16 : Int32) &&& 31).toUInt32).toInt32) &&& (255 : Int32)).toUInt32.toUInt16.toUInt32.toInt32)), .val (.ref ky), .val (.int (q0.toInt8.toInt32)), .val (.int (q1.toInt8.toInt32)), .val (.int (q2.toInt8.toInt32)), .val (.ref b495), .val (.ref r534), .unset, .unset, .unset]) rfl ?_
          refine XS.aload X537.here hx rfl (hb hby at_244) rfl rfl ?_
          exact kt
        obtain ⟨cq548, kq548, q548a, q548b, q548c⟩ := isOf hZ2 rfl Ec534
        obtain ⟨_, _, ⟨T548, L548, k548, n548⟩, -, X548, ⟨Lc548, hQ548, l548, y548, z548⟩, st548⟩ := X537.virtualBack hx (y := (⟨"com/example/nestwarden/nestwarden/store/Journal$Change", "key", "()Ljava/lang/String;"⟩ : MethodName)) (z := (⟨"com/example/nestwarden/nestwarden/store/Journal$Change", "key", "()Ljava/lang/String;"⟩ : MethodName)) ho2 (mvT hZ2 (hw _ (List.mem_of_getElem? (i := 58) rfl))) (mvT hZ2 (hw _ (List.mem_of_getElem? (i := 59) rfl))) (notFace_of_selects (args := #[]) (mvT hZ2 (hw _ (List.mem_of_getElem? (i := 61) rfl)))) (mvT hZ2 (hw _ (List.mem_of_getElem? (i := 61) rfl))) (mvT hZ2 (hw _ (List.mem_of_getElem? (i := 60) rfl))) (by decide) (backOf (W := 0) (own_rm10 l Z a0 hw [] (r534) (ky) T537.heap n0 (Nat.le_trans Z0 K545.1) Fk534) hZ2 (hw _ (List.mem_of_getElem? (i := 62) rfl)) (hw _ (List.mem_of_getElem? (i := 32) rfl)) (by decide) (by decide)) q548a q548c (g := (mkF m 246 #[.val (.int kc), .val (.int lens), .val (.int q0), .val (.int q1), .val (.int q2), .val (.int (lens &&& (3 : Int32))), .val (.int (((lens.toUInt32 >>> ((2 : Int32) &&& 31).toUInt32).toInt32) &&& (3 : Int32))), .val (.int ((kc &&& (255 : Int32)).toUInt32.toUInt16.toUInt32.toInt32)), .val (.int ((((kc.toUInt32 >>> ((8 : Int32) &&& 31).toUInt32).toInt32) &&& (255 : Int32)).toUInt32.toUInt16.toUInt32.toInt32)), .val (.int ((((kc.toUInt32 >>> ((16 : Int32) &&& 31).toUInt32).toInt32) &&& (255 : Int32)).toUInt32.toUInt16.toUInt32.toInt32)), .val (.ref ky), .val (.int (q0.toInt8.toInt32)), .val (.int (q1.toInt8.toInt32)), .val (.int (q2.toInt8.toInt32)), .val (.ref b495), .val (.ref r534), .unset, .unset, .unset] [(.ref r534)])) rfl (by rw [hml]; rfl) (Steps.refl _) (argsL := []) (rest := []) (lenOf own_pd8 rfl) rfl (by show 2 * 0 + _ ≤ _; exact Nat.le_of_eq rfl) (hb hby at_246) (fun _ _ => ⟨rfl, rfl, (by decide : 11 + 0 ≤ _), (by decide : 72 + 0 ≤ _)⟩)
        dsimp only [Pt.U, Pt.locs, Pt.cells, Pt.slots] at X548 l548 y548 z548 st548 hQ548
        subst l548 y548 z548
        obtain ⟨rfl, rfl, eq546⟩ := hQ548
        try rw [List.append_nil] at X548
        have S549 : ∀ t, Steps p.tables e below (T548.setTop (mkF m 249 #[.val (.int kc), .val (.int lens), .val (.int q0), .val (.int q1), .val (.int q2), .val (.int (lens &&& (3 : Int32))), .val (.int (((lens.toUInt32 >>> ((2 : Int32) &&& 31).toUInt32).toInt32) &&& (3 : Int32))), .val (.int ((kc &&& (255 : Int32)).toUInt32.toUInt16.toUInt32.toInt32)), .val (.int ((((kc.toUInt32 >>> ((8 : Int32) &&& 31).toUInt32).toInt32) &&& (255 : Int32)).toUInt32.toUInt16.toUInt32.toInt32)), .val (.int ((((kc.toUInt32 >>> ((16 : Int32) &&& 31).toUInt32).toInt32) &&& (255 : Int32)).toUInt32.toUInt16.toUInt32.toInt32)), .val (.ref ky), .val (.int (q0.toInt8.toInt32)), .val (.int (q1.toInt8.toInt32)), .val (.int (q2.toInt8.toInt32)), .val (.ref b495), .val (.ref r534), .unset, .unset, .unset] [(.ref ky)])) t → Steps p.tables e below (s₁.setTop (entryFrame m #[(.int kc), (.int lens), (.int q0), (.int q1), (.int q2)] maxLocals)) t := fun t kt => S547 t (st548.trans kt)
        have S551 : ∀ t, Steps p.tables e below (T548.setTop (mkF m 253 #[.val (.int kc), .val (.int lens), .val (.int q0), .val (.int q1), .val (.int q2), .val (.int (lens &&& (3 : Int32))), .val (.int (((lens.toUInt32 >>> ((2 : Int32) &&& 31).toUInt32).toInt32) &&& (3 : Int32))), .val (.int ((kc &&& (255 : Int32)).toUInt32.toUInt16.toUInt32.toInt32)), .val (.int ((((kc.toUInt32 >>> ((8 : Int32) &&& 31).toUInt32).toInt32) &&& (255 : Int32)).toUInt32.toUInt16.toUInt32.toInt32)), .val (.int ((((kc.toUInt32 >>> ((16 : Int32) &&& 31).toUInt32).toInt32) &&& (255 : Int32)).toUInt32.toUInt16.toUInt32.toInt32)), .val (.ref ky), .val (.int (q0.toInt8.toInt32)), .val (.int (q1.toInt8.toInt32)), .val (.int (q2.toInt8.toInt32)), .val (.ref b495), .val (.ref r534), .val (.ref ky), .unset, .unset] [(.ref r534)])) t → Steps p.tables e below (s₁.setTop (entryFrame m #[(.int kc), (.int lens), (.int q0), (.int q1), (.int q2)] maxLocals)) t := fun t kt => by
          refine S549 t ?_
          show Steps p.tables e below (T548.setTop (mkF m 249 #[.val (.int kc), .val (.int lens), .val (.int q0), .val (.int q1), .val (.int q2), .val (.int (lens &&& (3 : Int32))), .val (.int (((lens.toUInt32 >>> ((2 : Int32) &&& 31).toUInt32).toInt32) &&& (3 : Int32))), .val (.int ((kc &&& (255 : Int32)).toUInt32.toUInt16.toUInt32.toInt32)), .val (.int ((((kc.toUInt32 >>> ((8 : Int32) &&& 31).toUInt32).toInt32) &&& (255 : Int32)).toUInt32.toUInt16.toUInt32.toInt32)), .val (.int ((((kc.toUInt32 >>> ((16 : Int32) &&& 31).toUInt32).toInt32) &&& (255 : Int32)).toUInt32.toUInt16.toUInt32.toInt32)), .val (.ref ky), .val (.int (q0.toInt8.toInt32)), .val (.int (q1.toInt8.toInt32)), .val (.int (q2.toInt8.toInt32)), .val (.ref b495), .val (.ref r534), .unset, .unset, .unset] [(.ref ky)])) t
          refine XS.astore X548.here hx rfl (hb hby at_249) rfl rfl (l' := #[.val (.int kc), .val (.int lens), .val (.int q0), .val (.int q1), .val (.int q2), .val (.int (lens &&& (3 : Int32))), .val (.int (((lens.toUInt32 >>> ((2 : Int32) &&& 31).toUInt32).toInt32) &&& (3 : Int32))), .val (.int ((kc &&& (255 : Int32)).toUInt32.toUInt16.toUInt32.toInt32)), .val (.int ((((kc.toUInt32 >>> ((8 : Int32) &&& 31).toUInt32).toInt32) &&& (255 : Int32)).toUInt32.toUInt16.toUInt32.toInt32)), .val (.int ((((kc.toUInt32 >>> ((16 : Int32) &&& 31).toUInt32).toInt32) &&& (255 : Int32)).toUInt32.toUInt16.toUInt32.toInt32)), .val (.ref ky), .val (.int (q0.toInt8.toInt32)), .val (.int (q1.toInt8.toInt32)), .val (.int (q2.toInt8.toInt32)), .val (.ref b495), .val (.ref r534), .val (.ref ky), .unset, .unset]) rfl ?_
          refine XS.aload X548.here hx rfl (hb hby at_251) rfl rfl ?_
          exact kt
        obtain ⟨cq552, kq552, q552a, q552b, q552c⟩ := isOf hZ2 (eq546.trans rfl) Ec534
        obtain ⟨_, _, ⟨T552, L552, k552, n552⟩, -, X552, ⟨Lc552, hQ552, l552, y552, z552⟩, st552⟩ := X548.virtualBack hx (y := (⟨"com/example/nestwarden/nestwarden/store/Journal$Change", "record", "()[B"⟩ : MethodName)) (z := (⟨"com/example/nestwarden/nestwarden/store/Journal$Change", "record", "()[B"⟩ : MethodName)) ho2 (mvT hZ2 (hw _ (List.mem_of_getElem? (i := 63) rfl))) (mvT hZ2 (hw _ (List.mem_of_getElem? (i := 64) rfl))) (notFace_of_selects (args := #[]) (mvT hZ2 (hw _ (List.mem_of_getElem? (i := 66) rfl)))) (mvT hZ2 (hw _ (List.mem_of_getElem? (i := 66) rfl))) (mvT hZ2 (hw _ (List.mem_of_getElem? (i := 65) rfl))) (by decide) (backOf (W := 0) (own_rm11 l Z a0 hw [] (r534) (tb534) T537.heap n0 (Nat.le_trans Z0 K545.1) Fr534) hZ2 (hw _ (List.mem_of_getElem? (i := 67) rfl)) (hw _ (List.mem_of_getElem? (i := 32) rfl)) (by decide) (by decide)) q552a q552c (g := (mkF m 253 #[.val (.int kc), .val (.int lens), .val (.int q0), .val (.int q1), .val (.int q2), .val (.int (lens &&& (3 : Int32))), .val (.int (((lens.toUInt32 >>> ((2 : Int32) &&& 31).toUInt32).toInt32) &&& (3 : Int32))), .val (.int ((kc &&& (255 : Int32)).toUInt32.toUInt16.toUInt32.toInt32)), .val (.int ((((kc.toUInt32 >>> ((8 : Int32) &&& 31).toUInt32).toInt32) &&& (255 : Int32)).toUInt32.toUInt16.toUInt32.toInt32)), .val (.int ((((kc.toUInt32 >>> ((16 : Int32) &&& 31).toUInt32).toInt32) &&& (255 : Int32)).toUInt32.toUInt16.toUInt32.toInt32)), .val (.ref ky), .val (.int (q0.toInt8.toInt32)), .val (.int (q1.toInt8.toInt32)), .val (.int (q2.toInt8.toInt32)), .val (.ref b495), .val (.ref r534), .val (.ref ky), .unset, .unset] [(.ref r534)])) rfl (by rw [hml]; rfl) (Steps.refl _) (argsL := []) (rest := []) (lenOf own_pd9 rfl) rfl (by show 2 * 0 + _ ≤ _; exact Nat.le_of_eq rfl) (hb hby at_253) (fun _ _ => ⟨rfl, (eq546.trans rfl), (by decide : 11 + 0 ≤ _), (by decide : 72 + 0 ≤ _)⟩)
        dsimp only [Pt.U, Pt.locs, Pt.cells, Pt.slots] at X552 l552 y552 z552 st552 hQ552
        subst l552 y552 z552
        obtain ⟨rfl, rfl, eq550⟩ := hQ552
        try rw [List.append_nil] at X552
        have S553 : ∀ t, Steps p.tables e below (T552.setTop (mkF m 256 #[.val (.int kc), .val (.int lens), .val (.int q0), .val (.int q1), .val (.int q2), .val (.int (lens &&& (3 : Int32))), .val (.int (((lens.toUInt32 >>> ((2 : Int32) &&& 31).toUInt32).toInt32) &&& (3 : Int32))), .val (.int ((kc &&& (255 : Int32)).toUInt32.toUInt16.toUInt32.toInt32)), .val (.int ((((kc.toUInt32 >>> ((8 : Int32) &&& 31).toUInt32).toInt32) &&& (255 : Int32)).toUInt32.toUInt16.toUInt32.toInt32)), .val (.int ((((kc.toUInt32 >>> ((16 : Int32) &&& 31).toUInt32).toInt32) &&& (255 : Int32)).toUInt32.toUInt16.toUInt32.toInt32)), .val (.ref ky), .val (.int (q0.toInt8.toInt32)), .val (.int (q1.toInt8.toInt32)), .val (.int (q2.toInt8.toInt32)), .val (.ref b495), .val (.ref r534), .val (.ref ky), .unset, .unset] [(.ref tb534)])) t → Steps p.tables e below (s₁.setTop (entryFrame m #[(.int kc), (.int lens), (.int q0), (.int q1), (.int q2)] maxLocals)) t := fun t kt => S551 t (st552.trans kt)
        have S554 : ∀ t, Steps p.tables e below (T552.setTop (mkF m 260 #[.val (.int kc), .val (.int lens), .val (.int q0), .val (.int q1), .val (.int q2), .val (.int (lens &&& (3 : Int32))), .val (.int (((lens.toUInt32 >>> ((2 : Int32) &&& 31).toUInt32).toInt32) &&& (3 : Int32))), .val (.int ((kc &&& (255 : Int32)).toUInt32.toUInt16.toUInt32.toInt32)), .val (.int ((((kc.toUInt32 >>> ((8 : Int32) &&& 31).toUInt32).toInt32) &&& (255 : Int32)).toUInt32.toUInt16.toUInt32.toInt32)), .val (.int ((((kc.toUInt32 >>> ((16 : Int32) &&& 31).toUInt32).toInt32) &&& (255 : Int32)).toUInt32.toUInt16.toUInt32.toInt32)), .val (.ref ky), .val (.int (q0.toInt8.toInt32)), .val (.int (q1.toInt8.toInt32)), .val (.int (q2.toInt8.toInt32)), .val (.ref b495), .val (.ref r534), .val (.ref ky), .val (.ref tb534), .unset] [(.ref ky)])) t → Steps p.tables e below (s₁.setTop (entryFrame m #[(.int kc), (.int lens), (.int q0), (.int q1), (.int q2)] maxLocals)) t := fun t kt => by
          refine S553 t ?_
          show Steps p.tables e below (T552.setTop (mkF m 256 #[.val (.int kc), .val (.int lens), .val (.int q0), .val (.int q1), .val (.int q2), .val (.int (lens &&& (3 : Int32))), .val (.int (((lens.toUInt32 >>> ((2 : Int32) &&& 31).toUInt32).toInt32) &&& (3 : Int32))), .val (.int ((kc &&& (255 : Int32)).toUInt32.toUInt16.toUInt32.toInt32)), .val (.int ((((kc.toUInt32 >>> ((8 : Int32) &&& 31).toUInt32).toInt32) &&& (255 : Int32)).toUInt32.toUInt16.toUInt32.toInt32)), .val (.int ((((kc.toUInt32 >>> ((16 : Int32) &&& 31).toUInt32).toInt32) &&& (255 : Int32)).toUInt32.toUInt16.toUInt32.toInt32)), .val (.ref ky), .val (.int (q0.toInt8.toInt32)), .val (.int (q1.toInt8.toInt32)), .val (.int (q2.toInt8.toInt32)), .val (.ref b495), .val (.ref r534), .val (.ref ky), .unset, .unset] [(.ref tb534)])) t
          refine XS.astore X552.here hx rfl (hb hby at_256) rfl rfl (l' := #[.val (.int kc), .val (.int lens), .val (.int q0), .val (.int q1), .val (.int q2), .val (.int (lens &&& (3 : Int32))), .val (.int (((lens.toUInt32 >>> ((2 : Int32) &&& 31).toUInt32).toInt32) &&& (3 : Int32))), .val (.int ((kc &&& (255 : Int32)).toUInt32.toUInt16.toUInt32.toInt32)), .val (.int ((((kc.toUInt32 >>> ((8 : Int32) &&& 31).toUInt32).toInt32) &&& (255 : Int32)).toUInt32.toUInt16.toUInt32.toInt32)), .val (.int ((((kc.toUInt32 >>> ((16 : Int32) &&& 31).toUInt32).toInt32) &&& (255 : Int32)).toUInt32.toUInt16.toUInt32.toInt32)), .val (.ref ky), .val (.int (q0.toInt8.toInt32)), .val (.int (q1.toInt8.toInt32)), .val (.int (q2.toInt8.toInt32)), .val (.ref b495), .val (.ref r534), .val (.ref ky), .val (.ref tb534), .unset]) rfl ?_
          refine XS.aload X552.here hx rfl (hb hby at_258) rfl rfl ?_
          exact kt
        have S556 : ∀ t, Steps p.tables e below (T552.setTop (mkF m 267 #[.val (.int kc), .val (.int lens), .val (.int q0), .val (.int q1), .val (.int q2), .val (.int (lens &&& (3 : Int32))), .val (.int (((lens.toUInt32 >>> ((2 : Int32) &&& 31).toUInt32).toInt32) &&& (3 : Int32))), .val (.int ((kc &&& (255 : Int32)).toUInt32.toUInt16.toUInt32.toInt32)), .val (.int ((((kc.toUInt32 >>> ((8 : Int32) &&& 31).toUInt32).toInt32) &&& (255 : Int32)).toUInt32.toUInt16.toUInt32.toInt32)), .val (.int ((((kc.toUInt32 >>> ((16 : Int32) &&& 31).toUInt32).toInt32) &&& (255 : Int32)).toUInt32.toUInt16.toUInt32.toInt32)), .val (.ref ky), .val (.int (q0.toInt8.toInt32)), .val (.int (q1.toInt8.toInt32)), .val (.int (q2.toInt8.toInt32)), .val (.ref b495), .val (.ref r534), .val (.ref ky), .val (.ref tb534), .unset] [(.ref ky), (.ref ky)])) t → Steps p.tables e below (s₁.setTop (entryFrame m #[(.int kc), (.int lens), (.int q0), (.int q1), (.int q2)] maxLocals)) t := fun t kt => by
          refine S554 t ?_
          show Steps p.tables e below (T552.setTop (mkF m 260 #[.val (.int kc), .val (.int lens), .val (.int q0), .val (.int q1), .val (.int q2), .val (.int (lens &&& (3 : Int32))), .val (.int (((lens.toUInt32 >>> ((2 : Int32) &&& 31).toUInt32).toInt32) &&& (3 : Int32))), .val (.int ((kc &&& (255 : Int32)).toUInt32.toUInt16.toUInt32.toInt32)), .val (.int ((((kc.toUInt32 >>> ((8 : Int32) &&& 31).toUInt32).toInt32) &&& (255 : Int32)).toUInt32.toUInt16.toUInt32.toInt32)), .val (.int ((((kc.toUInt32 >>> ((16 : Int32) &&& 31).toUInt32).toInt32) &&& (255 : Int32)).toUInt32.toUInt16.toUInt32.toInt32)), .val (.ref ky), .val (.int (q0.toInt8.toInt32)), .val (.int (q1.toInt8.toInt32)), .val (.int (q2.toInt8.toInt32)), .val (.ref b495), .val (.ref r534), .val (.ref ky), .val (.ref tb534), .unset] [(.ref ky)])) t
          refine XS.ifnullNo X552.here hx rfl (hb hby at_260) rfl ?_
          refine XS.aload X552.here hx rfl (hb hby at_263) rfl rfl ?_
          refine XS.aload X552.here hx rfl (hb hby at_265) rfl rfl ?_
          exact kt
        obtain ⟨cq557, kq557, q557a, q557b, q557c⟩ := isOf hZ2 eq550 F542
        obtain ⟨_, _, ⟨T557, L557, k557, n557⟩, -, X557, ⟨Lc557, hQ557, l557, y557, z557⟩, st557⟩ := X552.virtualBack hx (y := (⟨"java/lang/String", "equals", "(Ljava/lang/Object;)Z"⟩ : MethodName)) (z := (⟨"java/lang/String", "equals", "(Ljava/lang/Object;)Z"⟩ : MethodName)) ho2 (mvT hZ2 (hw _ (List.mem_of_getElem? (i := 68) rfl))) (mvT hZ2 (hw _ (List.mem_of_getElem? (i := 69) rfl))) (notFace_of_selects (args := #[]) (mvT hZ2 (hw _ (List.mem_of_getElem? (i := 71) rfl)))) (mvT hZ2 (hw _ (List.mem_of_getElem? (i := 71) rfl))) (mvT hZ2 (hw _ (List.mem_of_getElem? (i := 70) rfl))) (by decide) (backOf (W := 0) (own_rm12 l Z a0 hw [] (ky) (ky) T537.heap n0 (Nat.le_trans Z0 K545.1) rfl) hZ2 (hw _ (List.mem_of_getElem? (i := 72) rfl)) (hw _ (List.mem_of_getElem? (i := 2) rfl)) (by decide) (by decide)) q557a q557c (g := (mkF m 267 #[.val (.int kc), .val (.int lens), .val (.int q0), .val (.int q1), .val (.int q2), .val (.int (lens &&& (3 : Int32))), .val (.int (((lens.toUInt32 >>> ((2 : Int32) &&& 31).toUInt32).toInt32) &&& (3 : Int32))), .val (.int ((kc &&& (255 : Int32)).toUInt32.toUInt16.toUInt32.toInt32)), .val (.int ((((kc.toUInt32 >>> ((8 : Int32) &&& 31).toUInt32).toInt32) &&& (255 : Int32)).toUInt32.toUInt16.toUInt32.toInt32)), .val (.int ((((kc.toUInt32 >>> ((16 : Int32) &&& 31).toUInt32).toInt32) &&& (255 : Int32)).toUInt32.toUInt16.toUInt32.toInt32)), .val (.ref ky), .val (.int (q0.toInt8.toInt32)), .val (.int (q1.toInt8.toInt32)), .val (.int (q2.toInt8.toInt32)), .val (.ref b495), .val (.ref r534), .val (.ref ky), .val (.ref tb534), .unset] [(.ref ky), (.ref ky)])) rfl (by rw [hml]; rfl) (Steps.refl _) (argsL := [(.ref ky)]) (rest := []) (lenOf own_pd10 rfl) rfl (by show 2 * 0 + _ ≤ _; exact Nat.le_of_eq rfl) (hb hby at_267) (fun _ _ => ⟨rfl, eq550, (by decide : 11 + 0 ≤ _), (by decide : 72 + 0 ≤ _)⟩)
        dsimp only [Pt.U, Pt.locs, Pt.cells, Pt.slots] at X557 l557 y557 z557 st557 hQ557
        subst l557 y557 z557
        obtain ⟨rfl, rfl, eq555⟩ := hQ557
        try rw [List.append_nil] at X557
        have S558 : ∀ t, Steps p.tables e below (T557.setTop (mkF m 270 #[.val (.int kc), .val (.int lens), .val (.int q0), .val (.int q1), .val (.int q2), .val (.int (lens &&& (3 : Int32))), .val (.int (((lens.toUInt32 >>> ((2 : Int32) &&& 31).toUInt32).toInt32) &&& (3 : Int32))), .val (.int ((kc &&& (255 : Int32)).toUInt32.toUInt16.toUInt32.toInt32)), .val (.int ((((kc.toUInt32 >>> ((8 : Int32) &&& 31).toUInt32).toInt32) &&& (255 : Int32)).toUInt32.toUInt16.toUInt32.toInt32)), .val (.int ((((kc.toUInt32 >>> ((16 : Int32) &&& 31).toUInt32).toInt32) &&& (255 : Int32)).toUInt32.toUInt16.toUInt32.toInt32)), .val (.ref ky), .val (.int (q0.toInt8.toInt32)), .val (.int (q1.toInt8.toInt32)), .val (.int (q2.toInt8.toInt32)), .val (.ref b495), .val (.ref r534), .val (.ref ky), .val (.ref tb534), .unset] [(.int (1 : Int32))])) t → Steps p.tables e below (s₁.setTop (entryFrame m #[(.int kc), (.int lens), (.int q0), (.int q1), (.int q2)] maxLocals)) t := fun t kt => S556 t (st557.trans kt)
        have hc270_559 : ¬ ((1 : Int32) = (0 : Int32)) := by decide
        have S560 : ∀ t, Steps p.tables e below (T557.setTop (mkF m 277 #[.val (.int kc), .val (.int lens), .val (.int q0), .val (.int q1), .val (.int q2), .val (.int (lens &&& (3 : Int32))), .val (.int (((lens.toUInt32 >>> ((2 : Int32) &&& 31).toUInt32).toInt32) &&& (3 : Int32))), .val (.int ((kc &&& (255 : Int32)).toUInt32.toUInt16.toUInt32.toInt32)), .val (.int ((((kc.toUInt32 >>> ((8 : Int32) &&& 31).toUInt32).toInt32) &&& (255 : Int32)).toUInt32.toUInt16.toUInt32.toInt32)), .val (.int ((((kc.toUInt32 >>> ((16 : Int32) &&& 31).toUInt32).toInt32) &&& (255 : Int32)).toUInt32.toUInt16.toUInt32.toInt32)), .val (.ref ky), .val (.int (q0.toInt8.toInt32)), .val (.int (q1.toInt8.toInt32)), .val (.int (q2.toInt8.toInt32)), .val (.ref b495), .val (.ref r534), .val (.ref ky), .val (.ref tb534), .unset] [(.ref tb534)])) t → Steps p.tables e below (s₁.setTop (entryFrame m #[(.int kc), (.int lens), (.int q0), (.int q1), (.int q2)] maxLocals)) t := fun t kt => by
          refine S558 t ?_
          show Steps p.tables e below (T557.setTop (mkF m 270 #[.val (.int kc), .val (.int lens), .val (.int q0), .val (.int q1), .val (.int q2), .val (.int (lens &&& (3 : Int32))), .val (.int (((lens.toUInt32 >>> ((2 : Int32) &&& 31).toUInt32).toInt32) &&& (3 : Int32))), .val (.int ((kc &&& (255 : Int32)).toUInt32.toUInt16.toUInt32.toInt32)), .val (.int ((((kc.toUInt32 >>> ((8 : Int32) &&& 31).toUInt32).toInt32) &&& (255 : Int32)).toUInt32.toUInt16.toUInt32.toInt32)), .val (.int ((((kc.toUInt32 >>> ((16 : Int32) &&& 31).toUInt32).toInt32) &&& (255 : Int32)).toUInt32.toUInt16.toUInt32.toInt32)), .val (.ref ky), .val (.int (q0.toInt8.toInt32)), .val (.int (q1.toInt8.toInt32)), .val (.int (q2.toInt8.toInt32)), .val (.ref b495), .val (.ref r534), .val (.ref ky), .val (.ref tb534), .unset] [(.int (1 : Int32))])) t
          refine XS.ifYes X557.here hx rfl (pc0 := 270) (pc' := 275) rfl (hb hby at_270) rfl ((if0 _ _).trans (feq hc270_559).2) (by decide) (by decide) ?_
          refine XS.aload X557.here hx rfl (hb hby at_275) rfl rfl ?_
          exact kt
        have S561 : ∀ t, Steps p.tables e below (T557.setTop (mkF m 284 #[.val (.int kc), .val (.int lens), .val (.int q0), .val (.int q1), .val (.int q2), .val (.int (lens &&& (3 : Int32))), .val (.int (((lens.toUInt32 >>> ((2 : Int32) &&& 31).toUInt32).toInt32) &&& (3 : Int32))), .val (.int ((kc &&& (255 : Int32)).toUInt32.toUInt16.toUInt32.toInt32)), .val (.int ((((kc.toUInt32 >>> ((8 : Int32) &&& 31).toUInt32).toInt32) &&& (255 : Int32)).toUInt32.toUInt16.toUInt32.toInt32)), .val (.int ((((kc.toUInt32 >>> ((16 : Int32) &&& 31).toUInt32).toInt32) &&& (255 : Int32)).toUInt32.toUInt16.toUInt32.toInt32)), .val (.ref ky), .val (.int (q0.toInt8.toInt32)), .val (.int (q1.toInt8.toInt32)), .val (.int (q2.toInt8.toInt32)), .val (.ref b495), .val (.ref r534), .val (.ref ky), .val (.ref tb534), .unset] [(.ref b495), (.ref tb534)])) t → Steps p.tables e below (s₁.setTop (entryFrame m #[(.int kc), (.int lens), (.int q0), (.int q1), (.int q2)] maxLocals)) t := fun t kt => by
          refine S560 t ?_
          show Steps p.tables e below (T557.setTop (mkF m 277 #[.val (.int kc), .val (.int lens), .val (.int q0), .val (.int q1), .val (.int q2), .val (.int (lens &&& (3 : Int32))), .val (.int (((lens.toUInt32 >>> ((2 : Int32) &&& 31).toUInt32).toInt32) &&& (3 : Int32))), .val (.int ((kc &&& (255 : Int32)).toUInt32.toUInt16.toUInt32.toInt32)), .val (.int ((((kc.toUInt32 >>> ((8 : Int32) &&& 31).toUInt32).toInt32) &&& (255 : Int32)).toUInt32.toUInt16.toUInt32.toInt32)), .val (.int ((((kc.toUInt32 >>> ((16 : Int32) &&& 31).toUInt32).toInt32) &&& (255 : Int32)).toUInt32.toUInt16.toUInt32.toInt32)), .val (.ref ky), .val (.int (q0.toInt8.toInt32)), .val (.int (q1.toInt8.toInt32)), .val (.int (q2.toInt8.toInt32)), .val (.ref b495), .val (.ref r534), .val (.ref ky), .val (.ref tb534), .unset] [(.ref tb534)])) t
          refine XS.ifnullNo X557.here hx rfl (hb hby at_277) rfl ?_
          refine XS.aload X557.here hx rfl (hb hby at_280) rfl rfl ?_
          refine XS.aload X557.here hx rfl (hb hby at_282) rfl rfl ?_
          exact kt
        have hc284_562 : ¬ (tb534 = b495) := (Ne.symm ne_b495_tb534)
        have S563 : ∀ t, Steps p.tables e below (T557.setTop (mkF m 289 #[.val (.int kc), .val (.int lens), .val (.int q0), .val (.int q1), .val (.int q2), .val (.int (lens &&& (3 : Int32))), .val (.int (((lens.toUInt32 >>> ((2 : Int32) &&& 31).toUInt32).toInt32) &&& (3 : Int32))), .val (.int ((kc &&& (255 : Int32)).toUInt32.toUInt16.toUInt32.toInt32)), .val (.int ((((kc.toUInt32 >>> ((8 : Int32) &&& 31).toUInt32).toInt32) &&& (255 : Int32)).toUInt32.toUInt16.toUInt32.toInt32)), .val (.int ((((kc.toUInt32 >>> ((16 : Int32) &&& 31).toUInt32).toInt32) &&& (255 : Int32)).toUInt32.toUInt16.toUInt32.toInt32)), .val (.ref ky), .val (.int (q0.toInt8.toInt32)), .val (.int (q1.toInt8.toInt32)), .val (.int (q2.toInt8.toInt32)), .val (.ref b495), .val (.ref r534), .val (.ref ky), .val (.ref tb534), .unset] [(.ref tb534)])) t → Steps p.tables e below (s₁.setTop (entryFrame m #[(.int kc), (.int lens), (.int q0), (.int q1), (.int q2)] maxLocals)) t := fun t kt => by
          refine S561 t ?_
          show Steps p.tables e below (T557.setTop (mkF m 284 #[.val (.int kc), .val (.int lens), .val (.int q0), .val (.int q1), .val (.int q2), .val (.int (lens &&& (3 : Int32))), .val (.int (((lens.toUInt32 >>> ((2 : Int32) &&& 31).toUInt32).toInt32) &&& (3 : Int32))), .val (.int ((kc &&& (255 : Int32)).toUInt32.toUInt16.toUInt32.toInt32)), .val (.int ((((kc.toUInt32 >>> ((8 : Int32) &&& 31).toUInt32).toInt32) &&& (255 : Int32)).toUInt32.toUInt16.toUInt32.toInt32)), .val (.int ((((kc.toUInt32 >>> ((16 : Int32) &&& 31).toUInt32).toInt32) &&& (255 : Int32)).toUInt32.toUInt16.toUInt32.toInt32)), .val (.ref ky), .val (.int (q0.toInt8.toInt32)), .val (.int (q1.toInt8.toInt32)), .val (.int (q2.toInt8.toInt32)), .val (.ref b495), .val (.ref r534), .val (.ref ky), .val (.ref tb534), .unset] [(.ref b495), (.ref tb534)])) t
          refine Jvm.RoadKit.acmp (g := (mkF m 284 #[.val (.int kc), .val (.int lens), .val (.int q0), .val (.int q1), .val (.int q2), .val (.int (lens &&& (3 : Int32))), .val (.int (((lens.toUInt32 >>> ((2 : Int32) &&& 31).toUInt32).toInt32) &&& (3 : Int32))), .val (.int ((kc &&& (255 : Int32)).toUInt32.toUInt16.toUInt32.toInt32)), .val (.int ((((kc.toUInt32 >>> ((8 : Int32) &&& 31).toUInt32).toInt32) &&& (255 : Int32)).toUInt32.toUInt16.toUInt32.toInt32)), .val (.int ((((kc.toUInt32 >>> ((16 : Int32) &&& 31).toUInt32).toInt32) &&& (255 : Int32)).toUInt32.toUInt16.toUInt32.toInt32)), .val (.ref ky), .val (.int (q0.toInt8.toInt32)), .val (.int (q1.toInt8.toInt32)), .val (.int (q2.toInt8.toInt32)), .val (.ref b495), .val (.ref r534), .val (.ref ky), .val (.ref tb534), .unset] [(.ref b495), (.ref tb534)])) X557 hx rfl rfl rfl (pc0 := 284) (pc' := 287) (same := false) rfl (hb hby at_284) rfl (decide_eq_false fun q => hc284_562 (Value.ref.inj q)) (by decide) (by decide) ?_
          show Steps p.tables e below (T557.setTop (mkF m 287 #[.val (.int kc), .val (.int lens), .val (.int q0), .val (.int q1), .val (.int q2), .val (.int (lens &&& (3 : Int32))), .val (.int (((lens.toUInt32 >>> ((2 : Int32) &&& 31).toUInt32).toInt32) &&& (3 : Int32))), .val (.int ((kc &&& (255 : Int32)).toUInt32.toUInt16.toUInt32.toInt32)), .val (.int ((((kc.toUInt32 >>> ((8 : Int32) &&& 31).toUInt32).toInt32) &&& (255 : Int32)).toUInt32.toUInt16.toUInt32.toInt32)), .val (.int ((((kc.toUInt32 >>> ((16 : Int32) &&& 31).toUInt32).toInt32) &&& (255 : Int32)).toUInt32.toUInt16.toUInt32.toInt32)), .val (.ref ky), .val (.int (q0.toInt8.toInt32)), .val (.int (q1.toInt8.toInt32)), .val (.int (q2.toInt8.toInt32)), .val (.ref b495), .val (.ref r534), .val (.ref ky), .val (.ref tb534), .unset] [])) t
          refine XS.aload X557.here hx rfl (hb hby at_287) rfl rfl ?_
          exact kt
        obtain ⟨cl564, Ar564, -, Sz564, Nn564, -, -⟩ := id Va534
        have S565 : ∀ t, Steps p.tables e below (T557.setTop (mkF m 292 #[.val (.int kc), .val (.int lens), .val (.int q0), .val (.int q1), .val (.int q2), .val (.int (lens &&& (3 : Int32))), .val (.int (((lens.toUInt32 >>> ((2 : Int32) &&& 31).toUInt32).toInt32) &&& (3 : Int32))), .val (.int ((kc &&& (255 : Int32)).toUInt32.toUInt16.toUInt32.toInt32)), .val (.int ((((kc.toUInt32 >>> ((8 : Int32) &&& 31).toUInt32).toInt32) &&& (255 : Int32)).toUInt32.toUInt16.toUInt32.toInt32)), .val (.int ((((kc.toUInt32 >>> ((16 : Int32) &&& 31).toUInt32).toInt32) &&& (255 : Int32)).toUInt32.toUInt16.toUInt32.toInt32)), .val (.ref ky), .val (.int (q0.toInt8.toInt32)), .val (.int (q1.toInt8.toInt32)), .val (.int (q2.toInt8.toInt32)), .val (.ref b495), .val (.ref r534), .val (.ref ky), .val (.ref tb534), .unset] [(.int (((lens.toUInt32 >>> ((2 : Int32) &&& 31).toUInt32).toInt32) &&& (3 : Int32))), (.int (3 : Int32))])) t → Steps p.tables e below (s₁.setTop (entryFrame m #[(.int kc), (.int lens), (.int q0), (.int q1), (.int q2)] maxLocals)) t := fun t kt => by
          refine S563 t ?_
          show Steps p.tables e below (T557.setTop (mkF m 289 #[.val (.int kc), .val (.int lens), .val (.int q0), .val (.int q1), .val (.int q2), .val (.int (lens &&& (3 : Int32))), .val (.int (((lens.toUInt32 >>> ((2 : Int32) &&& 31).toUInt32).toInt32) &&& (3 : Int32))), .val (.int ((kc &&& (255 : Int32)).toUInt32.toUInt16.toUInt32.toInt32)), .val (.int ((((kc.toUInt32 >>> ((8 : Int32) &&& 31).toUInt32).toInt32) &&& (255 : Int32)).toUInt32.toUInt16.toUInt32.toInt32)), .val (.int ((((kc.toUInt32 >>> ((16 : Int32) &&& 31).toUInt32).toInt32) &&& (255 : Int32)).toUInt32.toUInt16.toUInt32.toInt32)), .val (.ref ky), .val (.int (q0.toInt8.toInt32)), .val (.int (q1.toInt8.toInt32)), .val (.int (q2.toInt8.toInt32)), .val (.ref b495), .val (.ref r534), .val (.ref ky), .val (.ref tb534), .unset] [(.ref tb534)])) t
          refine X557.arraylength hx (by rw [eq555]; exact Ar564.1) (State.isArrayOf_alike hZ2.alike Ar564.2.1) (g := (mkF m 289 #[.val (.int kc), .val (.int lens), .val (.int q0), .val (.int q1), .val (.int q2), .val (.int (lens &&& (3 : Int32))), .val (.int (((lens.toUInt32 >>> ((2 : Int32) &&& 31).toUInt32).toInt32) &&& (3 : Int32))), .val (.int ((kc &&& (255 : Int32)).toUInt32.toUInt16.toUInt32.toInt32)), .val (.int ((((kc.toUInt32 >>> ((8 : Int32) &&& 31).toUInt32).toInt32) &&& (255 : Int32)).toUInt32.toUInt16.toUInt32.toInt32)), .val (.int ((((kc.toUInt32 >>> ((16 : Int32) &&& 31).toUInt32).toInt32) &&& (255 : Int32)).toUInt32.toUInt16.toUInt32.toInt32)), .val (.ref ky), .val (.int (q0.toInt8.toInt32)), .val (.int (q1.toInt8.toInt32)), .val (.int (q2.toInt8.toInt32)), .val (.ref b495), .val (.ref r534), .val (.ref ky), .val (.ref tb534), .unset] [(.ref tb534)])) rfl rfl (hb hby at_289) _ ?_
          rw [len_of Sz564 Nn564]
          show Steps p.tables e below (T557.setTop (mkF m 290 #[.val (.int kc), .val (.int lens), .val (.int q0), .val (.int q1), .val (.int q2), .val (.int (lens &&& (3 : Int32))), .val (.int (((lens.toUInt32 >>> ((2 : Int32) &&& 31).toUInt32).toInt32) &&& (3 : Int32))), .val (.int ((kc &&& (255 : Int32)).toUInt32.toUInt16.toUInt32.toInt32)), .val (.int ((((kc.toUInt32 >>> ((8 : Int32) &&& 31).toUInt32).toInt32) &&& (255 : Int32)).toUInt32.toUInt16.toUInt32.toInt32)), .val (.int ((((kc.toUInt32 >>> ((16 : Int32) &&& 31).toUInt32).toInt32) &&& (255 : Int32)).toUInt32.toUInt16.toUInt32.toInt32)), .val (.ref ky), .val (.int (q0.toInt8.toInt32)), .val (.int (q1.toInt8.toInt32)), .val (.int (q2.toInt8.toInt32)), .val (.ref b495), .val (.ref r534), .val (.ref ky), .val (.ref tb534), .unset] [(.int (3 : Int32))])) t
          refine XS.iload X557.here hx rfl (hb hby at_290) rfl ?_
          exact kt
        have hc292_566 : (3 : Int32) = (((lens.toUInt32 >>> ((2 : Int32) &&& 31).toUInt32).toInt32) &&& (3 : Int32)) := own_three hc161 hc175 hc194
        have S568 : ∀ t, Steps p.tables e below (T557.setTop (mkF m 305 #[.val (.int kc), .val (.int lens), .val (.int q0), .val (.int q1), .val (.int q2), .val (.int (lens &&& (3 : Int32))), .val (.int (((lens.toUInt32 >>> ((2 : Int32) &&& 31).toUInt32).toInt32) &&& (3 : Int32))), .val (.int ((kc &&& (255 : Int32)).toUInt32.toUInt16.toUInt32.toInt32)), .val (.int ((((kc.toUInt32 >>> ((8 : Int32) &&& 31).toUInt32).toInt32) &&& (255 : Int32)).toUInt32.toUInt16.toUInt32.toInt32)), .val (.int ((((kc.toUInt32 >>> ((16 : Int32) &&& 31).toUInt32).toInt32) &&& (255 : Int32)).toUInt32.toUInt16.toUInt32.toInt32)), .val (.ref ky), .val (.int (q0.toInt8.toInt32)), .val (.int (q1.toInt8.toInt32)), .val (.int (q2.toInt8.toInt32)), .val (.ref b495), .val (.ref r534), .val (.ref ky), .val (.ref tb534), .unset] [(.int (q2.toInt8.toInt32)), (.int (q1.toInt8.toInt32)), (.int (q0.toInt8.toInt32)), (.ref tb534)])) t → Steps p.tables e below (s₁.setTop (entryFrame m #[(.int kc), (.int lens), (.int q0), (.int q1), (.int q2)] maxLocals)) t := fun t kt => by
          refine S565 t ?_
          show Steps p.tables e below (T557.setTop (mkF m 292 #[.val (.int kc), .val (.int lens), .val (.int q0), .val (.int q1), .val (.int q2), .val (.int (lens &&& (3 : Int32))), .val (.int (((lens.toUInt32 >>> ((2 : Int32) &&& 31).toUInt32).toInt32) &&& (3 : Int32))), .val (.int ((kc &&& (255 : Int32)).toUInt32.toUInt16.toUInt32.toInt32)), .val (.int ((((kc.toUInt32 >>> ((8 : Int32) &&& 31).toUInt32).toInt32) &&& (255 : Int32)).toUInt32.toUInt16.toUInt32.toInt32)), .val (.int ((((kc.toUInt32 >>> ((16 : Int32) &&& 31).toUInt32).toInt32) &&& (255 : Int32)).toUInt32.toUInt16.toUInt32.toInt32)), .val (.ref ky), .val (.int (q0.toInt8.toInt32)), .val (.int (q1.toInt8.toInt32)), .val (.int (q2.toInt8.toInt32)), .val (.ref b495), .val (.ref r534), .val (.ref ky), .val (.ref tb534), .unset] [(.int (((lens.toUInt32 >>> ((2 : Int32) &&& 31).toUInt32).toInt32) &&& (3 : Int32))), (.int (3 : Int32))])) t
          refine XS.icmpYes X557.here hx rfl (pc0 := 292) (pc' := 297) rfl (hb hby at_292) rfl (teq hc292_566).1 (by decide) (by decide) ?_
          refine XS.aload X557.here hx rfl (hb hby at_297) rfl rfl ?_
          refine XS.iload X557.here hx rfl (hb hby at_299) rfl ?_
          refine XS.iload X557.here hx rfl (hb hby at_301) rfl ?_
          refine XS.iload X557.here hx rfl (hb hby at_303) rfl ?_
          exact kt
        obtain ⟨_, _, ⟨T569, L569, k569, n569⟩, -, X569, ⟨Lc569, hQ569, l569, y569, z569⟩, st569⟩ := Jvm.LawKit.callS X557 hx (y := (⟨"com/example/nestwarden/nestwarden/store/ChangeKeepPinLaw", "same", "([BBBB)Z"⟩ : MethodName)) ho2 (mvT hZ2 (hw _ (List.mem_of_getElem? (i := 73) rfl))) (mvT hZ2 (hw _ (List.mem_of_getElem? (i := 74) rfl))) (mvT hZ2 (hw _ (List.mem_of_getElem? (i := 75) rfl))) (mvT hZ2 (hw _ (List.mem_of_getElem? (i := 76) rfl))) (by decide) (backOf (W := 0) (own_rm13n3 l Z a0 hw [] (tb534) ((q0.toInt8.toInt32)) ((q1.toInt8.toInt32)) ((q2.toInt8.toInt32)) ((nar .byte (q0.toInt8.toInt32))) ((nar .byte (q1.toInt8.toInt32))) ((nar .byte (q2.toInt8.toInt32))) (k495) T537.heap n0 (Nat.le_trans Z0 K545.1) Va534 (own_lolo _) (own_lolo _) (own_lolo _)) hZ2 (hw _ (List.mem_of_getElem? (i := 76) rfl)) (hw _ (List.mem_of_getElem? (i := 75) rfl)) (by decide) (by decide)) (g := (mkF m 305 #[.val (.int kc), .val (.int lens), .val (.int q0), .val (.int q1), .val (.int q2), .val (.int (lens &&& (3 : Int32))), .val (.int (((lens.toUInt32 >>> ((2 : Int32) &&& 31).toUInt32).toInt32) &&& (3 : Int32))), .val (.int ((kc &&& (255 : Int32)).toUInt32.toUInt16.toUInt32.toInt32)), .val (.int ((((kc.toUInt32 >>> ((8 : Int32) &&& 31).toUInt32).toInt32) &&& (255 : Int32)).toUInt32.toUInt16.toUInt32.toInt32)), .val (.int ((((kc.toUInt32 >>> ((16 : Int32) &&& 31).toUInt32).toInt32) &&& (255 : Int32)).toUInt32.toUInt16.toUInt32.toInt32)), .val (.ref ky), .val (.int (q0.toInt8.toInt32)), .val (.int (q1.toInt8.toInt32)), .val (.int (q2.toInt8.toInt32)), .val (.ref b495), .val (.ref r534), .val (.ref ky), .val (.ref tb534), .unset] [(.int (q2.toInt8.toInt32)), (.int (q1.toInt8.toInt32)), (.int (q0.toInt8.toInt32)), (.ref tb534)])) rfl (by rw [hml]; rfl) (argsL := [(.ref tb534), (.int (q0.toInt8.toInt32)), (.int (q1.toInt8.toInt32)), (.int (q2.toInt8.toInt32))]) (rest := []) (lenOf own_pd11 rfl) rfl (by show 2 * 0 + _ ≤ _; exact Nat.le_of_eq rfl) (hb hby at_305) (fun _ _ => ⟨rfl, eq555, (by decide : 11 + 0 ≤ _), (by decide : 72 + 0 ≤ _)⟩)
        dsimp only [Pt.U, Pt.locs, Pt.cells, Pt.slots] at X569 l569 y569 z569 st569 hQ569
        subst l569 y569 z569
        obtain ⟨rfl, rfl, eq567⟩ := hQ569
        try rw [List.append_nil] at X569
        have S570 : ∀ t, Steps p.tables e below (T569.setTop (mkF m 308 #[.val (.int kc), .val (.int lens), .val (.int q0), .val (.int q1), .val (.int q2), .val (.int (lens &&& (3 : Int32))), .val (.int (((lens.toUInt32 >>> ((2 : Int32) &&& 31).toUInt32).toInt32) &&& (3 : Int32))), .val (.int ((kc &&& (255 : Int32)).toUInt32.toUInt16.toUInt32.toInt32)), .val (.int ((((kc.toUInt32 >>> ((8 : Int32) &&& 31).toUInt32).toInt32) &&& (255 : Int32)).toUInt32.toUInt16.toUInt32.toInt32)), .val (.int ((((kc.toUInt32 >>> ((16 : Int32) &&& 31).toUInt32).toInt32) &&& (255 : Int32)).toUInt32.toUInt16.toUInt32.toInt32)), .val (.ref ky), .val (.int (q0.toInt8.toInt32)), .val (.int (q1.toInt8.toInt32)), .val (.int (q2.toInt8.toInt32)), .val (.ref b495), .val (.ref r534), .val (.ref ky), .val (.ref tb534), .unset] [(.int (1 : Int32))])) t → Steps p.tables e below (s₁.setTop (entryFrame m #[(.int kc), (.int lens), (.int q0), (.int q1), (.int q2)] maxLocals)) t := fun t kt => S568 t (st569 _ kt)
        have hc308_571 : ¬ ((1 : Int32) = (0 : Int32)) := by decide
        have S573 : ∀ t, Steps p.tables e below (T569.setTop (mkF m 321 #[.val (.int kc), .val (.int lens), .val (.int q0), .val (.int q1), .val (.int q2), .val (.int (lens &&& (3 : Int32))), .val (.int (((lens.toUInt32 >>> ((2 : Int32) &&& 31).toUInt32).toInt32) &&& (3 : Int32))), .val (.int ((kc &&& (255 : Int32)).toUInt32.toUInt16.toUInt32.toInt32)), .val (.int ((((kc.toUInt32 >>> ((8 : Int32) &&& 31).toUInt32).toInt32) &&& (255 : Int32)).toUInt32.toUInt16.toUInt32.toInt32)), .val (.int ((((kc.toUInt32 >>> ((16 : Int32) &&& 31).toUInt32).toInt32) &&& (255 : Int32)).toUInt32.toUInt16.toUInt32.toInt32)), .val (.ref ky), .val (.int (q0.toInt8.toInt32)), .val (.int (q1.toInt8.toInt32)), .val (.int (q2.toInt8.toInt32)), .val (.ref b495), .val (.ref r534), .val (.ref ky), .val (.ref tb534), .unset] [(.int (q2.toInt8.toInt32)), (.int (q1.toInt8.toInt32)), (.int (q0.toInt8.toInt32)), (.ref b495)])) t → Steps p.tables e below (s₁.setTop (entryFrame m #[(.int kc), (.int lens), (.int q0), (.int q1), (.int q2)] maxLocals)) t := fun t kt => by
          refine S570 t ?_
          show Steps p.tables e below (T569.setTop (mkF m 308 #[.val (.int kc), .val (.int lens), .val (.int q0), .val (.int q1), .val (.int q2), .val (.int (lens &&& (3 : Int32))), .val (.int (((lens.toUInt32 >>> ((2 : Int32) &&& 31).toUInt32).toInt32) &&& (3 : Int32))), .val (.int ((kc &&& (255 : Int32)).toUInt32.toUInt16.toUInt32.toInt32)), .val (.int ((((kc.toUInt32 >>> ((8 : Int32) &&& 31).toUInt32).toInt32) &&& (255 : Int32)).toUInt32.toUInt16.toUInt32.toInt32)), .val (.int ((((kc.toUInt32 >>> ((16 : Int32) &&& 31).toUInt32).toInt32) &&& (255 : Int32)).toUInt32.toUInt16.toUInt32.toInt32)), .val (.ref ky), .val (.int (q0.toInt8.toInt32)), .val (.int (q1.toInt8.toInt32)), .val (.int (q2.toInt8.toInt32)), .val (.ref b495), .val (.ref r534), .val (.ref ky), .val (.ref tb534), .unset] [(.int (1 : Int32))])) t
          refine XS.ifYes X569.here hx rfl (pc0 := 308) (pc' := 313) rfl (hb hby at_308) rfl ((if0 _ _).trans (feq hc308_571).2) (by decide) (by decide) ?_
          refine XS.aload X569.here hx rfl (hb hby at_313) rfl rfl ?_
          refine XS.iload X569.here hx rfl (hb hby at_315) rfl ?_
          refine XS.iload X569.here hx rfl (hb hby at_317) rfl ?_
          refine XS.iload X569.here hx rfl (hb hby at_319) rfl ?_
          exact kt
        obtain ⟨_, _, ⟨T574, L574, k574, n574⟩, -, X574, ⟨Lc574, hQ574, l574, y574, z574⟩, st574⟩ := Jvm.LawKit.callS X569 hx (y := (⟨"com/example/nestwarden/nestwarden/store/ChangeKeepPinLaw", "same", "([BBBB)Z"⟩ : MethodName)) ho2 (mvT hZ2 (hw _ (List.mem_of_getElem? (i := 73) rfl))) (mvT hZ2 (hw _ (List.mem_of_getElem? (i := 74) rfl))) (mvT hZ2 (hw _ (List.mem_of_getElem? (i := 75) rfl))) (mvT hZ2 (hw _ (List.mem_of_getElem? (i := 76) rfl))) (by decide) (backOf (W := 0) (own_rm13n3 l Z a0 hw [] (b495) ((q0.toInt8.toInt32)) ((q1.toInt8.toInt32)) ((q2.toInt8.toInt32)) ((nar .byte (q0.toInt8.toInt32))) ((nar .byte (q1.toInt8.toInt32))) ((nar .byte (q2.toInt8.toInt32))) (k495) T537.heap n0 (Nat.le_trans Z0 K545.1) F544 (own_lolo _) (own_lolo _) (own_lolo _)) hZ2 (hw _ (List.mem_of_getElem? (i := 76) rfl)) (hw _ (List.mem_of_getElem? (i := 75) rfl)) (by decide) (by decide)) (g := (mkF m 321 #[.val (.int kc), .val (.int lens), .val (.int q0), .val (.int q1), .val (.int q2), .val (.int (lens &&& (3 : Int32))), .val (.int (((lens.toUInt32 >>> ((2 : Int32) &&& 31).toUInt32).toInt32) &&& (3 : Int32))), .val (.int ((kc &&& (255 : Int32)).toUInt32.toUInt16.toUInt32.toInt32)), .val (.int ((((kc.toUInt32 >>> ((8 : Int32) &&& 31).toUInt32).toInt32) &&& (255 : Int32)).toUInt32.toUInt16.toUInt32.toInt32)), .val (.int ((((kc.toUInt32 >>> ((16 : Int32) &&& 31).toUInt32).toInt32) &&& (255 : Int32)).toUInt32.toUInt16.toUInt32.toInt32)), .val (.ref ky), .val (.int (q0.toInt8.toInt32)), .val (.int (q1.toInt8.toInt32)), .val (.int (q2.toInt8.toInt32)), .val (.ref b495), .val (.ref r534), .val (.ref ky), .val (.ref tb534), .unset] [(.int (q2.toInt8.toInt32)), (.int (q1.toInt8.toInt32)), (.int (q0.toInt8.toInt32)), (.ref b495)])) rfl (by rw [hml]; rfl) (argsL := [(.ref b495), (.int (q0.toInt8.toInt32)), (.int (q1.toInt8.toInt32)), (.int (q2.toInt8.toInt32))]) (rest := []) (lenOf own_pd11 rfl) rfl (by show 2 * 0 + _ ≤ _; exact Nat.le_of_eq rfl) (hb hby at_321) (fun _ _ => ⟨rfl, eq567, (by decide : 11 + 0 ≤ _), (by decide : 72 + 0 ≤ _)⟩)
        dsimp only [Pt.U, Pt.locs, Pt.cells, Pt.slots] at X574 l574 y574 z574 st574 hQ574
        subst l574 y574 z574
        obtain ⟨rfl, rfl, eq572⟩ := hQ574
        try rw [List.append_nil] at X574
        have S575 : ∀ t, Steps p.tables e below (T574.setTop (mkF m 324 #[.val (.int kc), .val (.int lens), .val (.int q0), .val (.int q1), .val (.int q2), .val (.int (lens &&& (3 : Int32))), .val (.int (((lens.toUInt32 >>> ((2 : Int32) &&& 31).toUInt32).toInt32) &&& (3 : Int32))), .val (.int ((kc &&& (255 : Int32)).toUInt32.toUInt16.toUInt32.toInt32)), .val (.int ((((kc.toUInt32 >>> ((8 : Int32) &&& 31).toUInt32).toInt32) &&& (255 : Int32)).toUInt32.toUInt16.toUInt32.toInt32)), .val (.int ((((kc.toUInt32 >>> ((16 : Int32) &&& 31).toUInt32).toInt32) &&& (255 : Int32)).toUInt32.toUInt16.toUInt32.toInt32)), .val (.ref ky), .val (.int (q0.toInt8.toInt32)), .val (.int (q1.toInt8.toInt32)), .val (.int (q2.toInt8.toInt32)), .val (.ref b495), .val (.ref r534), .val (.ref ky), .val (.ref tb534), .unset] [(.int (1 : Int32))])) t → Steps p.tables e below (s₁.setTop (entryFrame m #[(.int kc), (.int lens), (.int q0), (.int q1), (.int q2)] maxLocals)) t := fun t kt => S573 t (st574 _ kt)
        have hc324_576 : ¬ ((1 : Int32) = (0 : Int32)) := by decide
        have S579 : ∀ t, Steps p.tables e below (T574.setTop (mkF m 331 #[.val (.int kc), .val (.int lens), .val (.int q0), .val (.int q1), .val (.int q2), .val (.int (lens &&& (3 : Int32))), .val (.int (((lens.toUInt32 >>> ((2 : Int32) &&& 31).toUInt32).toInt32) &&& (3 : Int32))), .val (.int ((kc &&& (255 : Int32)).toUInt32.toUInt16.toUInt32.toInt32)), .val (.int ((((kc.toUInt32 >>> ((8 : Int32) &&& 31).toUInt32).toInt32) &&& (255 : Int32)).toUInt32.toUInt16.toUInt32.toInt32)), .val (.int ((((kc.toUInt32 >>> ((16 : Int32) &&& 31).toUInt32).toInt32) &&& (255 : Int32)).toUInt32.toUInt16.toUInt32.toInt32)), .val (.ref ky), .val (.int (q0.toInt8.toInt32)), .val (.int (q1.toInt8.toInt32)), .val (.int (q2.toInt8.toInt32)), .val (.ref b495), .val (.ref r534), .val (.ref ky), .val (.ref tb534), .unset] [(.ref b495)])) t → Steps p.tables e below (s₁.setTop (entryFrame m #[(.int kc), (.int lens), (.int q0), (.int q1), (.int q2)] maxLocals)) t := fun t kt => by
          refine S575 t ?_
          show Steps p.tables e below (T574.setTop (mkF m 324 #[.val (.int kc), .val (.int lens), .val (.int q0), .val (.int q1), .val (.int q2), .val (.int (lens &&& (3 : Int32))), .val (.int (((lens.toUInt32 >>> ((2 : Int32) &&& 31).toUInt32).toInt32) &&& (3 : Int32))), .val (.int ((kc &&& (255 : Int32)).toUInt32.toUInt16.toUInt32.toInt32)), .val (.int ((((kc.toUInt32 >>> ((8 : Int32) &&& 31).toUInt32).toInt32) &&& (255 : Int32)).toUInt32.toUInt16.toUInt32.toInt32)), .val (.int ((((kc.toUInt32 >>> ((16 : Int32) &&& 31).toUInt32).toInt32) &&& (255 : Int32)).toUInt32.toUInt16.toUInt32.toInt32)), .val (.ref ky), .val (.int (q0.toInt8.toInt32)), .val (.int (q1.toInt8.toInt32)), .val (.int (q2.toInt8.toInt32)), .val (.ref b495), .val (.ref r534), .val (.ref ky), .val (.ref tb534), .unset] [(.int (1 : Int32))])) t
          refine XS.ifYes X574.here hx rfl (pc0 := 324) (pc' := 329) rfl (hb hby at_324) rfl ((if0 _ _).trans (feq hc324_576).2) (by decide) (by decide) ?_
          refine XS.aload X574.here hx rfl (hb hby at_329) rfl rfl ?_
          exact kt
        obtain ⟨_, _, ⟨T580, L580, k580, n580⟩, -, X580, ⟨Lc580, hQ580, l580, y580, z580⟩, st580⟩ := Jvm.LawKit.callS X574 hx (y := (⟨"com/example/nestwarden/nestwarden/store/ChangeKeepPinLaw", "flip", "([B)V"⟩ : MethodName)) ho2 (mvT hZ2 (hw _ (List.mem_of_getElem? (i := 77) rfl))) (mvT hZ2 (hw _ (List.mem_of_getElem? (i := 78) rfl))) (mvT hZ2 (hw _ (List.mem_of_getElem? (i := 75) rfl))) (mvT hZ2 (hw _ (List.mem_of_getElem? (i := 79) rfl))) (by decide) (backOf (W := 0) (own_rm14n3 l Z a0 hw [] (b495) ((nar .byte (q0.toInt8.toInt32))) ((nar .byte (q1.toInt8.toInt32))) ((nar .byte (q2.toInt8.toInt32))) (k495) T537.heap n0 (Nat.le_trans Z0 K545.1) F544 g_b495) hZ2 (hw _ (List.mem_of_getElem? (i := 79) rfl)) (hw _ (List.mem_of_getElem? (i := 75) rfl)) (by decide) (by decide)) (g := (mkF m 331 #[.val (.int kc), .val (.int lens), .val (.int q0), .val (.int q1), .val (.int q2), .val (.int (lens &&& (3 : Int32))), .val (.int (((lens.toUInt32 >>> ((2 : Int32) &&& 31).toUInt32).toInt32) &&& (3 : Int32))), .val (.int ((kc &&& (255 : Int32)).toUInt32.toUInt16.toUInt32.toInt32)), .val (.int ((((kc.toUInt32 >>> ((8 : Int32) &&& 31).toUInt32).toInt32) &&& (255 : Int32)).toUInt32.toUInt16.toUInt32.toInt32)), .val (.int ((((kc.toUInt32 >>> ((16 : Int32) &&& 31).toUInt32).toInt32) &&& (255 : Int32)).toUInt32.toUInt16.toUInt32.toInt32)), .val (.ref ky), .val (.int (q0.toInt8.toInt32)), .val (.int (q1.toInt8.toInt32)), .val (.int (q2.toInt8.toInt32)), .val (.ref b495), .val (.ref r534), .val (.ref ky), .val (.ref tb534), .unset] [(.ref b495)])) rfl (by rw [hml]; rfl) (argsL := [(.ref b495)]) (rest := []) (lenOf own_pd12 rfl) rfl (by show 2 * 0 + _ ≤ _; exact Nat.le_of_eq rfl) (hb hby at_331) (fun _ _ => ⟨rfl, eq572, (by decide : 11 + 0 ≤ _), (by decide : 72 + 0 ≤ _)⟩)
        dsimp only [Pt.U, Pt.locs, Pt.cells, Pt.slots] at X580 l580 y580 z580 st580 hQ580
        subst l580 y580 z580
        obtain ⟨rfl, Nq580, Kc577⟩ := hQ580
        have N581 := Fr.app N538 Nq580
        have S582 : ∀ t, Steps p.tables e below (T580.setTop (mkF m 334 #[.val (.int kc), .val (.int lens), .val (.int q0), .val (.int q1), .val (.int q2), .val (.int (lens &&& (3 : Int32))), .val (.int (((lens.toUInt32 >>> ((2 : Int32) &&& 31).toUInt32).toInt32) &&& (3 : Int32))), .val (.int ((kc &&& (255 : Int32)).toUInt32.toUInt16.toUInt32.toInt32)), .val (.int ((((kc.toUInt32 >>> ((8 : Int32) &&& 31).toUInt32).toInt32) &&& (255 : Int32)).toUInt32.toUInt16.toUInt32.toInt32)), .val (.int ((((kc.toUInt32 >>> ((16 : Int32) &&& 31).toUInt32).toInt32) &&& (255 : Int32)).toUInt32.toUInt16.toUInt32.toInt32)), .val (.ref ky), .val (.int (q0.toInt8.toInt32)), .val (.int (q1.toInt8.toInt32)), .val (.int (q2.toInt8.toInt32)), .val (.ref b495), .val (.ref r534), .val (.ref ky), .val (.ref tb534), .unset] [])) t → Steps p.tables e below (s₁.setTop (entryFrame m #[(.int kc), (.int lens), (.int q0), (.int q1), (.int q2)] maxLocals)) t := fun t kt => S579 t (st580 _ kt)
        have Sf583 := Safe.keep Kc577 (allS Sf540 all0) CR541.1 Sf540
        have CR584 := CR541.trans (CHr.keep Kc577 (allS Sf540 all0) CR541.1)
        have F585 := F542.keep Kc577
        have F586 := F543.keep Kc577
        have F587 := Ec534.keep Kc577
        have F588 := Fk534.keep Kc577 (ninS (Exa.neArv Ec534 F544 (hw _ (List.mem_of_getElem? (i := 35) rfl))) nin0)
        have F589 := Fr534.keep Kc577 (ninS (Exa.neArv Ec534 F544 (hw _ (List.mem_of_getElem? (i := 35) rfl))) nin0)
        have F590 := Va534.keep Kc577 (ninS (Ne.symm ne_b495_tb534) nin0)
        have K591 : Keep h0 T580.heap [] := K545.trans Kc577 (allS (Or.inr sz_b495) all0)
        have S593 : ∀ t, Steps p.tables e below (T580.setTop (mkF m 336 #[.val (.int kc), .val (.int lens), .val (.int q0), .val (.int q1), .val (.int q2), .val (.int (lens &&& (3 : Int32))), .val (.int (((lens.toUInt32 >>> ((2 : Int32) &&& 31).toUInt32).toInt32) &&& (3 : Int32))), .val (.int ((kc &&& (255 : Int32)).toUInt32.toUInt16.toUInt32.toInt32)), .val (.int ((((kc.toUInt32 >>> ((8 : Int32) &&& 31).toUInt32).toInt32) &&& (255 : Int32)).toUInt32.toUInt16.toUInt32.toInt32)), .val (.int ((((kc.toUInt32 >>> ((16 : Int32) &&& 31).toUInt32).toInt32) &&& (255 : Int32)).toUInt32.toUInt16.toUInt32.toInt32)), .val (.ref ky), .val (.int (q0.toInt8.toInt32)), .val (.int (q1.toInt8.toInt32)), .val (.int (q2.toInt8.toInt32)), .val (.ref b495), .val (.ref r534), .val (.ref ky), .val (.ref tb534), .unset] [(.ref r534)])) t → Steps p.tables e below (s₁.setTop (entryFrame m #[(.int kc), (.int lens), (.int q0), (.int q1), (.int q2)] maxLocals)) t := fun t kt => by
          refine S582 t ?_
          show Steps p.tables e below (T580.setTop (mkF m 334 #[.val (.int kc), .val (.int lens), .val (.int q0), .val (.int q1), .val (.int q2), .val (.int (lens &&& (3 : Int32))), .val (.int (((lens.toUInt32 >>> ((2 : Int32) &&& 31).toUInt32).toInt32) &&& (3 : Int32))), .val (.int ((kc &&& (255 : Int32)).toUInt32.toUInt16.toUInt32.toInt32)), .val (.int ((((kc.toUInt32 >>> ((8 : Int32) &&& 31).toUInt32).toInt32) &&& (255 : Int32)).toUInt32.toUInt16.toUInt32.toInt32)), .val (.int ((((kc.toUInt32 >>> ((16 : Int32) &&& 31).toUInt32).toInt32) &&& (255 : Int32)).toUInt32.toUInt16.toUInt32.toInt32)), .val (.ref ky), .val (.int (q0.toInt8.toInt32)), .val (.int (q1.toInt8.toInt32)), .val (.int (q2.toInt8.toInt32)), .val (.ref b495), .val (.ref r534), .val (.ref ky), .val (.ref tb534), .unset] [])) t
          refine XS.aload X580.here hx rfl (hb hby at_334) rfl rfl ?_
          exact kt
        obtain ⟨cq594, kq594, q594a, q594b, q594c⟩ := isOf hZ2 rfl F587
        obtain ⟨_, _, ⟨T594, L594, k594, n594⟩, -, X594, ⟨Lc594, hQ594, l594, y594, z594⟩, st594⟩ := X580.virtualBack hx (y := (⟨"com/example/nestwarden/nestwarden/store/Journal$Change", "record", "()[B"⟩ : MethodName)) (z := (⟨"com/example/nestwarden/nestwarden/store/Journal$Change", "record", "()[B"⟩ : MethodName)) ho2 (mvT hZ2 (hw _ (List.mem_of_getElem? (i := 63) rfl))) (mvT hZ2 (hw _ (List.mem_of_getElem? (i := 64) rfl))) (notFace_of_selects (args := #[]) (mvT hZ2 (hw _ (List.mem_of_getElem? (i := 66) rfl)))) (mvT hZ2 (hw _ (List.mem_of_getElem? (i := 66) rfl))) (mvT hZ2 (hw _ (List.mem_of_getElem? (i := 65) rfl))) (by decide) (backOf (W := 0) (own_rm11 l Z a0 hw [] (r534) (tb534) T580.heap n0 (Nat.le_trans Z0 K591.1) F589) hZ2 (hw _ (List.mem_of_getElem? (i := 67) rfl)) (hw _ (List.mem_of_getElem? (i := 32) rfl)) (by decide) (by decide)) q594a q594c (g := (mkF m 336 #[.val (.int kc), .val (.int lens), .val (.int q0), .val (.int q1), .val (.int q2), .val (.int (lens &&& (3 : Int32))), .val (.int (((lens.toUInt32 >>> ((2 : Int32) &&& 31).toUInt32).toInt32) &&& (3 : Int32))), .val (.int ((kc &&& (255 : Int32)).toUInt32.toUInt16.toUInt32.toInt32)), .val (.int ((((kc.toUInt32 >>> ((8 : Int32) &&& 31).toUInt32).toInt32) &&& (255 : Int32)).toUInt32.toUInt16.toUInt32.toInt32)), .val (.int ((((kc.toUInt32 >>> ((16 : Int32) &&& 31).toUInt32).toInt32) &&& (255 : Int32)).toUInt32.toUInt16.toUInt32.toInt32)), .val (.ref ky), .val (.int (q0.toInt8.toInt32)), .val (.int (q1.toInt8.toInt32)), .val (.int (q2.toInt8.toInt32)), .val (.ref b495), .val (.ref r534), .val (.ref ky), .val (.ref tb534), .unset] [(.ref r534)])) rfl (by rw [hml]; rfl) (Steps.refl _) (argsL := []) (rest := []) (lenOf own_pd9 rfl) rfl (by show 2 * 0 + _ ≤ _; exact Nat.le_of_eq rfl) (hb hby at_336) (fun _ _ => ⟨rfl, rfl, (by decide : 11 + 0 ≤ _), (by decide : 72 + 0 ≤ _)⟩)
        dsimp only [Pt.U, Pt.locs, Pt.cells, Pt.slots] at X594 l594 y594 z594 st594 hQ594
        subst l594 y594 z594
        obtain ⟨rfl, rfl, eq592⟩ := hQ594
        try rw [List.append_nil] at X594
        have S595 : ∀ t, Steps p.tables e below (T594.setTop (mkF m 339 #[.val (.int kc), .val (.int lens), .val (.int q0), .val (.int q1), .val (.int q2), .val (.int (lens &&& (3 : Int32))), .val (.int (((lens.toUInt32 >>> ((2 : Int32) &&& 31).toUInt32).toInt32) &&& (3 : Int32))), .val (.int ((kc &&& (255 : Int32)).toUInt32.toUInt16.toUInt32.toInt32)), .val (.int ((((kc.toUInt32 >>> ((8 : Int32) &&& 31).toUInt32).toInt32) &&& (255 : Int32)).toUInt32.toUInt16.toUInt32.toInt32)), .val (.int ((((kc.toUInt32 >>> ((16 : Int32) &&& 31).toUInt32).toInt32) &&& (255 : Int32)).toUInt32.toUInt16.toUInt32.toInt32)), .val (.ref ky), .val (.int (q0.toInt8.toInt32)), .val (.int (q1.toInt8.toInt32)), .val (.int (q2.toInt8.toInt32)), .val (.ref b495), .val (.ref r534), .val (.ref ky), .val (.ref tb534), .unset] [(.ref tb534)])) t → Steps p.tables e below (s₁.setTop (entryFrame m #[(.int kc), (.int lens), (.int q0), (.int q1), (.int q2)] maxLocals)) t := fun t kt => S593 t (st594.trans kt)
        have S596 : ∀ t, Steps p.tables e below (T594.setTop (mkF m 343 #[.val (.int kc), .val (.int lens), .val (.int q0), .val (.int q1), .val (.int q2), .val (.int (lens &&& (3 : Int32))), .val (.int (((lens.toUInt32 >>> ((2 : Int32) &&& 31).toUInt32).toInt32) &&& (3 : Int32))), .val (.int ((kc &&& (255 : Int32)).toUInt32.toUInt16.toUInt32.toInt32)), .val (.int ((((kc.toUInt32 >>> ((8 : Int32) &&& 31).toUInt32).toInt32) &&& (255 : Int32)).toUInt32.toUInt16.toUInt32.toInt32)), .val (.int ((((kc.toUInt32 >>> ((16 : Int32) &&& 31).toUInt32).toInt32) &&& (255 : Int32)).toUInt32.toUInt16.toUInt32.toInt32)), .val (.ref ky), .val (.int (q0.toInt8.toInt32)), .val (.int (q1.toInt8.toInt32)), .val (.int (q2.toInt8.toInt32)), .val (.ref b495), .val (.ref r534), .val (.ref ky), .val (.ref tb534), .val (.ref tb534)] [(.ref tb534)])) t → Steps p.tables e below (s₁.setTop (entryFrame m #[(.int kc), (.int lens), (.int q0), (.int q1), (.int q2)] maxLocals)) t := fun t kt => by
          refine S595 t ?_
          show Steps p.tables e below (T594.setTop (mkF m 339 #[.val (.int kc), .val (.int lens), .val (.int q0), .val (.int q1), .val (.int q2), .val (.int (lens &&& (3 : Int32))), .val (.int (((lens.toUInt32 >>> ((2 : Int32) &&& 31).toUInt32).toInt32) &&& (3 : Int32))), .val (.int ((kc &&& (255 : Int32)).toUInt32.toUInt16.toUInt32.toInt32)), .val (.int ((((kc.toUInt32 >>> ((8 : Int32) &&& 31).toUInt32).toInt32) &&& (255 : Int32)).toUInt32.toUInt16.toUInt32.toInt32)), .val (.int ((((kc.toUInt32 >>> ((16 : Int32) &&& 31).toUInt32).toInt32) &&& (255 : Int32)).toUInt32.toUInt16.toUInt32.toInt32)), .val (.ref ky), .val (.int (q0.toInt8.toInt32)), .val (.int (q1.toInt8.toInt32)), .val (.int (q2.toInt8.toInt32)), .val (.ref b495), .val (.ref r534), .val (.ref ky), .val (.ref tb534), .unset] [(.ref tb534)])) t
          refine XS.astore X594.here hx rfl (hb hby at_339) rfl rfl (l' := #[.val (.int kc), .val (.int lens), .val (.int q0), .val (.int q1), .val (.int q2), .val (.int (lens &&& (3 : Int32))), .val (.int (((lens.toUInt32 >>> ((2 : Int32) &&& 31).toUInt32).toInt32) &&& (3 : Int32))), .val (.int ((kc &&& (255 : Int32)).toUInt32.toUInt16.toUInt32.toInt32)), .val (.int ((((kc.toUInt32 >>> ((8 : Int32) &&& 31).toUInt32).toInt32) &&& (255 : Int32)).toUInt32.toUInt16.toUInt32.toInt32)), .val (.int ((((kc.toUInt32 >>> ((16 : Int32) &&& 31).toUInt32).toInt32) &&& (255 : Int32)).toUInt32.toUInt16.toUInt32.toInt32)), .val (.ref ky), .val (.int (q0.toInt8.toInt32)), .val (.int (q1.toInt8.toInt32)), .val (.int (q2.toInt8.toInt32)), .val (.ref b495), .val (.ref r534), .val (.ref ky), .val (.ref tb534), .val (.ref tb534)]) rfl ?_
          refine XS.aload X594.here hx rfl (hb hby at_341) rfl rfl ?_
          exact kt
        have S597 : ∀ t, Steps p.tables e below (T594.setTop (mkF m 348 #[.val (.int kc), .val (.int lens), .val (.int q0), .val (.int q1), .val (.int q2), .val (.int (lens &&& (3 : Int32))), .val (.int (((lens.toUInt32 >>> ((2 : Int32) &&& 31).toUInt32).toInt32) &&& (3 : Int32))), .val (.int ((kc &&& (255 : Int32)).toUInt32.toUInt16.toUInt32.toInt32)), .val (.int ((((kc.toUInt32 >>> ((8 : Int32) &&& 31).toUInt32).toInt32) &&& (255 : Int32)).toUInt32.toUInt16.toUInt32.toInt32)), .val (.int ((((kc.toUInt32 >>> ((16 : Int32) &&& 31).toUInt32).toInt32) &&& (255 : Int32)).toUInt32.toUInt16.toUInt32.toInt32)), .val (.ref ky), .val (.int (q0.toInt8.toInt32)), .val (.int (q1.toInt8.toInt32)), .val (.int (q2.toInt8.toInt32)), .val (.ref b495), .val (.ref r534), .val (.ref ky), .val (.ref tb534), .val (.ref tb534)] [(.ref tb534)])) t → Steps p.tables e below (s₁.setTop (entryFrame m #[(.int kc), (.int lens), (.int q0), (.int q1), (.int q2)] maxLocals)) t := fun t kt => by
          refine S596 t ?_
          show Steps p.tables e below (T594.setTop (mkF m 343 #[.val (.int kc), .val (.int lens), .val (.int q0), .val (.int q1), .val (.int q2), .val (.int (lens &&& (3 : Int32))), .val (.int (((lens.toUInt32 >>> ((2 : Int32) &&& 31).toUInt32).toInt32) &&& (3 : Int32))), .val (.int ((kc &&& (255 : Int32)).toUInt32.toUInt16.toUInt32.toInt32)), .val (.int ((((kc.toUInt32 >>> ((8 : Int32) &&& 31).toUInt32).toInt32) &&& (255 : Int32)).toUInt32.toUInt16.toUInt32.toInt32)), .val (.int ((((kc.toUInt32 >>> ((16 : Int32) &&& 31).toUInt32).toInt32) &&& (255 : Int32)).toUInt32.toUInt16.toUInt32.toInt32)), .val (.ref ky), .val (.int (q0.toInt8.toInt32)), .val (.int (q1.toInt8.toInt32)), .val (.int (q2.toInt8.toInt32)), .val (.ref b495), .val (.ref r534), .val (.ref ky), .val (.ref tb534), .val (.ref tb534)] [(.ref tb534)])) t
          refine XS.ifnullNo X594.here hx rfl (hb hby at_343) rfl ?_
          refine XS.aload X594.here hx rfl (hb hby at_346) rfl rfl ?_
          exact kt
        obtain ⟨cl598, Ar598, -, Sz598, Nn598, -, -⟩ := id F590
        have S599 : ∀ t, Steps p.tables e below (T594.setTop (mkF m 351 #[.val (.int kc), .val (.int lens), .val (.int q0), .val (.int q1), .val (.int q2), .val (.int (lens &&& (3 : Int32))), .val (.int (((lens.toUInt32 >>> ((2 : Int32) &&& 31).toUInt32).toInt32) &&& (3 : Int32))), .val (.int ((kc &&& (255 : Int32)).toUInt32.toUInt16.toUInt32.toInt32)), .val (.int ((((kc.toUInt32 >>> ((8 : Int32) &&& 31).toUInt32).toInt32) &&& (255 : Int32)).toUInt32.toUInt16.toUInt32.toInt32)), .val (.int ((((kc.toUInt32 >>> ((16 : Int32) &&& 31).toUInt32).toInt32) &&& (255 : Int32)).toUInt32.toUInt16.toUInt32.toInt32)), .val (.ref ky), .val (.int (q0.toInt8.toInt32)), .val (.int (q1.toInt8.toInt32)), .val (.int (q2.toInt8.toInt32)), .val (.ref b495), .val (.ref r534), .val (.ref ky), .val (.ref tb534), .val (.ref tb534)] [(.int (((lens.toUInt32 >>> ((2 : Int32) &&& 31).toUInt32).toInt32) &&& (3 : Int32))), (.int (3 : Int32))])) t → Steps p.tables e below (s₁.setTop (entryFrame m #[(.int kc), (.int lens), (.int q0), (.int q1), (.int q2)] maxLocals)) t := fun t kt => by
          refine S597 t ?_
          show Steps p.tables e below (T594.setTop (mkF m 348 #[.val (.int kc), .val (.int lens), .val (.int q0), .val (.int q1), .val (.int q2), .val (.int (lens &&& (3 : Int32))), .val (.int (((lens.toUInt32 >>> ((2 : Int32) &&& 31).toUInt32).toInt32) &&& (3 : Int32))), .val (.int ((kc &&& (255 : Int32)).toUInt32.toUInt16.toUInt32.toInt32)), .val (.int ((((kc.toUInt32 >>> ((8 : Int32) &&& 31).toUInt32).toInt32) &&& (255 : Int32)).toUInt32.toUInt16.toUInt32.toInt32)), .val (.int ((((kc.toUInt32 >>> ((16 : Int32) &&& 31).toUInt32).toInt32) &&& (255 : Int32)).toUInt32.toUInt16.toUInt32.toInt32)), .val (.ref ky), .val (.int (q0.toInt8.toInt32)), .val (.int (q1.toInt8.toInt32)), .val (.int (q2.toInt8.toInt32)), .val (.ref b495), .val (.ref r534), .val (.ref ky), .val (.ref tb534), .val (.ref tb534)] [(.ref tb534)])) t
          refine X594.arraylength hx (by rw [(eq592.trans rfl)]; exact Ar598.1) (State.isArrayOf_alike hZ2.alike Ar598.2.1) (g := (mkF m 348 #[.val (.int kc), .val (.int lens), .val (.int q0), .val (.int q1), .val (.int q2), .val (.int (lens &&& (3 : Int32))), .val (.int (((lens.toUInt32 >>> ((2 : Int32) &&& 31).toUInt32).toInt32) &&& (3 : Int32))), .val (.int ((kc &&& (255 : Int32)).toUInt32.toUInt16.toUInt32.toInt32)), .val (.int ((((kc.toUInt32 >>> ((8 : Int32) &&& 31).toUInt32).toInt32) &&& (255 : Int32)).toUInt32.toUInt16.toUInt32.toInt32)), .val (.int ((((kc.toUInt32 >>> ((16 : Int32) &&& 31).toUInt32).toInt32) &&& (255 : Int32)).toUInt32.toUInt16.toUInt32.toInt32)), .val (.ref ky), .val (.int (q0.toInt8.toInt32)), .val (.int (q1.toInt8.toInt32)), .val (.int (q2.toInt8.toInt32)), .val (.ref b495), .val (.ref r534), .val (.ref ky), .val (.ref tb534), .val (.ref tb534)] [(.ref tb534)])) rfl rfl (hb hby at_348) _ ?_
          rw [len_of Sz598 Nn598]
          show Steps p.tables e below (T594.setTop (mkF m 349 #[.val (.int kc), .val (.int lens), .val (.int q0), .val (.int q1), .val (.int q2), .val (.int (lens &&& (3 : Int32))), .val (.int (((lens.toUInt32 >>> ((2 : Int32) &&& 31).toUInt32).toInt32) &&& (3 : Int32))), .val (.int ((kc &&& (255 : Int32)).toUInt32.toUInt16.toUInt32.toInt32)), .val (.int ((((kc.toUInt32 >>> ((8 : Int32) &&& 31).toUInt32).toInt32) &&& (255 : Int32)).toUInt32.toUInt16.toUInt32.toInt32)), .val (.int ((((kc.toUInt32 >>> ((16 : Int32) &&& 31).toUInt32).toInt32) &&& (255 : Int32)).toUInt32.toUInt16.toUInt32.toInt32)), .val (.ref ky), .val (.int (q0.toInt8.toInt32)), .val (.int (q1.toInt8.toInt32)), .val (.int (q2.toInt8.toInt32)), .val (.ref b495), .val (.ref r534), .val (.ref ky), .val (.ref tb534), .val (.ref tb534)] [(.int (3 : Int32))])) t
          refine XS.iload X594.here hx rfl (hb hby at_349) rfl ?_
          exact kt
        have hc351_600 : (3 : Int32) = (((lens.toUInt32 >>> ((2 : Int32) &&& 31).toUInt32).toInt32) &&& (3 : Int32)) := own_three hc161 hc175 hc194
        have S602 : ∀ t, Steps p.tables e below (T594.setTop (mkF m 362 #[.val (.int kc), .val (.int lens), .val (.int q0), .val (.int q1), .val (.int q2), .val (.int (lens &&& (3 : Int32))), .val (.int (((lens.toUInt32 >>> ((2 : Int32) &&& 31).toUInt32).toInt32) &&& (3 : Int32))), .val (.int ((kc &&& (255 : Int32)).toUInt32.toUInt16.toUInt32.toInt32)), .val (.int ((((kc.toUInt32 >>> ((8 : Int32) &&& 31).toUInt32).toInt32) &&& (255 : Int32)).toUInt32.toUInt16.toUInt32.toInt32)), .val (.int ((((kc.toUInt32 >>> ((16 : Int32) &&& 31).toUInt32).toInt32) &&& (255 : Int32)).toUInt32.toUInt16.toUInt32.toInt32)), .val (.ref ky), .val (.int (q0.toInt8.toInt32)), .val (.int (q1.toInt8.toInt32)), .val (.int (q2.toInt8.toInt32)), .val (.ref b495), .val (.ref r534), .val (.ref ky), .val (.ref tb534), .val (.ref tb534)] [(.int (q2.toInt8.toInt32)), (.int (q1.toInt8.toInt32)), (.int (q0.toInt8.toInt32)), (.ref tb534)])) t → Steps p.tables e below (s₁.setTop (entryFrame m #[(.int kc), (.int lens), (.int q0), (.int q1), (.int q2)] maxLocals)) t := fun t kt => by
          refine S599 t ?_
          show Steps p.tables e below (T594.setTop (mkF m 351 #[.val (.int kc), .val (.int lens), .val (.int q0), .val (.int q1), .val (.int q2), .val (.int (lens &&& (3 : Int32))), .val (.int (((lens.toUInt32 >>> ((2 : Int32) &&& 31).toUInt32).toInt32) &&& (3 : Int32))), .val (.int ((kc &&& (255 : Int32)).toUInt32.toUInt16.toUInt32.toInt32)), .val (.int ((((kc.toUInt32 >>> ((8 : Int32) &&& 31).toUInt32).toInt32) &&& (255 : Int32)).toUInt32.toUInt16.toUInt32.toInt32)), .val (.int ((((kc.toUInt32 >>> ((16 : Int32) &&& 31).toUInt32).toInt32) &&& (255 : Int32)).toUInt32.toUInt16.toUInt32.toInt32)), .val (.ref ky), .val (.int (q0.toInt8.toInt32)), .val (.int (q1.toInt8.toInt32)), .val (.int (q2.toInt8.toInt32)), .val (.ref b495), .val (.ref r534), .val (.ref ky), .val (.ref tb534), .val (.ref tb534)] [(.int (((lens.toUInt32 >>> ((2 : Int32) &&& 31).toUInt32).toInt32) &&& (3 : Int32))), (.int (3 : Int32))])) t
          refine XS.icmpNo X594.here hx rfl (hb hby at_351) rfl (teq hc351_600).2 ?_
          refine XS.aload X594.here hx rfl (hb hby at_354) rfl rfl ?_
          refine XS.iload X594.here hx rfl (hb hby at_356) rfl ?_
          refine XS.iload X594.here hx rfl (hb hby at_358) rfl ?_
          refine XS.iload X594.here hx rfl (hb hby at_360) rfl ?_
          exact kt
        obtain ⟨_, _, ⟨T603, L603, k603, n603⟩, -, X603, ⟨Lc603, hQ603, l603, y603, z603⟩, st603⟩ := Jvm.LawKit.callS X594 hx (y := (⟨"com/example/nestwarden/nestwarden/store/ChangeKeepPinLaw", "same", "([BBBB)Z"⟩ : MethodName)) ho2 (mvT hZ2 (hw _ (List.mem_of_getElem? (i := 73) rfl))) (mvT hZ2 (hw _ (List.mem_of_getElem? (i := 74) rfl))) (mvT hZ2 (hw _ (List.mem_of_getElem? (i := 75) rfl))) (mvT hZ2 (hw _ (List.mem_of_getElem? (i := 76) rfl))) (by decide) (backOf (W := 0) (own_rm13n3 l Z a0 hw [] (tb534) ((q0.toInt8.toInt32)) ((q1.toInt8.toInt32)) ((q2.toInt8.toInt32)) ((nar .byte (q0.toInt8.toInt32))) ((nar .byte (q1.toInt8.toInt32))) ((nar .byte (q2.toInt8.toInt32))) (k495) T580.heap n0 (Nat.le_trans Z0 K591.1) F590 (own_lolo _) (own_lolo _) (own_lolo _)) hZ2 (hw _ (List.mem_of_getElem? (i := 76) rfl)) (hw _ (List.mem_of_getElem? (i := 75) rfl)) (by decide) (by decide)) (g := (mkF m 362 #[.val (.int kc), .val (.int lens), .val (.int q0), .val (.int q1), .val (.int q2), .val (.int (lens &&& (3 : Int32))), .val (.int (((lens.toUInt32 >>> ((2 : Int32) &&& 31).toUInt32).toInt32) &&& (3 : Int32))), .val (.int ((kc &&& (255 : Int32)).toUInt32.toUInt16.toUInt32.toInt32)), .val (.int ((((kc.toUInt32 >>> ((8 : Int32) &&& 31).toUInt32).toInt32) &&& (255 : Int32)).toUInt32.toUInt16.toUInt32.toInt32)), .val (.int ((((kc.toUInt32 >>> ((16 : Int32) &&& 31).toUInt32).toInt32) &&& (255 : Int32)).toUInt32.toUInt16.toUInt32.toInt32)), .val (.ref ky), .val (.int (q0.toInt8.toInt32)), .val (.int (q1.toInt8.toInt32)), .val (.int (q2.toInt8.toInt32)), .val (.ref b495), .val (.ref r534), .val (.ref ky), .val (.ref tb534), .val (.ref tb534)] [(.int (q2.toInt8.toInt32)), (.int (q1.toInt8.toInt32)), (.int (q0.toInt8.toInt32)), (.ref tb534)])) rfl (by rw [hml]; rfl) (argsL := [(.ref tb534), (.int (q0.toInt8.toInt32)), (.int (q1.toInt8.toInt32)), (.int (q2.toInt8.toInt32))]) (rest := []) (lenOf own_pd11 rfl) rfl (by show 2 * 0 + _ ≤ _; exact Nat.le_of_eq rfl) (hb hby at_362) (fun _ _ => ⟨rfl, (eq592.trans rfl), (by decide : 11 + 0 ≤ _), (by decide : 72 + 0 ≤ _)⟩)
        dsimp only [Pt.U, Pt.locs, Pt.cells, Pt.slots] at X603 l603 y603 z603 st603 hQ603
        subst l603 y603 z603
        obtain ⟨rfl, rfl, eq601⟩ := hQ603
        try rw [List.append_nil] at X603
        have S604 : ∀ t, Steps p.tables e below (T603.setTop (mkF m 365 #[.val (.int kc), .val (.int lens), .val (.int q0), .val (.int q1), .val (.int q2), .val (.int (lens &&& (3 : Int32))), .val (.int (((lens.toUInt32 >>> ((2 : Int32) &&& 31).toUInt32).toInt32) &&& (3 : Int32))), .val (.int ((kc &&& (255 : Int32)).toUInt32.toUInt16.toUInt32.toInt32)), .val (.int ((((kc.toUInt32 >>> ((8 : Int32) &&& 31).toUInt32).toInt32) &&& (255 : Int32)).toUInt32.toUInt16.toUInt32.toInt32)), .val (.int ((((kc.toUInt32 >>> ((16 : Int32) &&& 31).toUInt32).toInt32) &&& (255 : Int32)).toUInt32.toUInt16.toUInt32.toInt32)), .val (.ref ky), .val (.int (q0.toInt8.toInt32)), .val (.int (q1.toInt8.toInt32)), .val (.int (q2.toInt8.toInt32)), .val (.ref b495), .val (.ref r534), .val (.ref ky), .val (.ref tb534), .val (.ref tb534)] [(.int (1 : Int32))])) t → Steps p.tables e below (s₁.setTop (entryFrame m #[(.int kc), (.int lens), (.int q0), (.int q1), (.int q2)] maxLocals)) t := fun t kt => S602 t (st603 _ kt)
        have hc365_605 : ¬ ((1 : Int32) = (0 : Int32)) := by decide
        have S606 : ∀ t, Steps p.tables e below (T603.setTop (mkF m 373 #[.val (.int kc), .val (.int lens), .val (.int q0), .val (.int q1), .val (.int q2), .val (.int (lens &&& (3 : Int32))), .val (.int (((lens.toUInt32 >>> ((2 : Int32) &&& 31).toUInt32).toInt32) &&& (3 : Int32))), .val (.int ((kc &&& (255 : Int32)).toUInt32.toUInt16.toUInt32.toInt32)), .val (.int ((((kc.toUInt32 >>> ((8 : Int32) &&& 31).toUInt32).toInt32) &&& (255 : Int32)).toUInt32.toUInt16.toUInt32.toInt32)), .val (.int ((((kc.toUInt32 >>> ((16 : Int32) &&& 31).toUInt32).toInt32) &&& (255 : Int32)).toUInt32.toUInt16.toUInt32.toInt32)), .val (.ref ky), .val (.int (q0.toInt8.toInt32)), .val (.int (q1.toInt8.toInt32)), .val (.int (q2.toInt8.toInt32)), .val (.ref b495), .val (.ref r534), .val (.ref ky), .val (.ref tb534), .val (.ref tb534)] [(.int (1 : Int32))])) t → Steps p.tables e below (s₁.setTop (entryFrame m #[(.int kc), (.int lens), (.int q0), (.int q1), (.int q2)] maxLocals)) t := fun t kt => by
          refine S604 t ?_
          show Steps p.tables e below (T603.setTop (mkF m 365 #[.val (.int kc), .val (.int lens), .val (.int q0), .val (.int q1), .val (.int q2), .val (.int (lens &&& (3 : Int32))), .val (.int (((lens.toUInt32 >>> ((2 : Int32) &&& 31).toUInt32).toInt32) &&& (3 : Int32))), .val (.int ((kc &&& (255 : Int32)).toUInt32.toUInt16.toUInt32.toInt32)), .val (.int ((((kc.toUInt32 >>> ((8 : Int32) &&& 31).toUInt32).toInt32) &&& (255 : Int32)).toUInt32.toUInt16.toUInt32.toInt32)), .val (.int ((((kc.toUInt32 >>> ((16 : Int32) &&& 31).toUInt32).toInt32) &&& (255 : Int32)).toUInt32.toUInt16.toUInt32.toInt32)), .val (.ref ky), .val (.int (q0.toInt8.toInt32)), .val (.int (q1.toInt8.toInt32)), .val (.int (q2.toInt8.toInt32)), .val (.ref b495), .val (.ref r534), .val (.ref ky), .val (.ref tb534), .val (.ref tb534)] [(.int (1 : Int32))])) t
          refine XS.ifNo X603.here hx rfl (hb hby at_365) rfl ((if0 _ _).trans (feq hc365_605).1) ?_
          refine XS.iconst X603.here hx rfl (hb hby at_368) ?_
          refine XS.goto X603.here hx rfl (pc0 := 369) (pc' := 373) rfl (hb hby at_369) (by decide) (by decide) ?_
          exact kt
        obtain ⟨fs, hr, hrun, hended, -, hW, hBk, hsame⟩ := X603.leaveW hS2 (by rw [eq601]; exact (Nat.le_trans (Nat.le_trans (Nat.le_trans (Nat.le_trans (Nat.le_trans (Nat.le_trans hk2 E495.1) (Keep.of_wr W503).1) (Keep.of_wr W514).1) (Keep.of_wr W525).1) Kc534.1) Kc577.1)) (v := some (.int (nar .boolean (1 : Int32)))) (fun h => by rw [Bd.returns] at h; cases h)
        refine ⟨_, _, S606 _ ?_, hrun, hended, _, _, rfl, ?_, (by show CHr Z own_EL s.vm s.heap T603.vm T603.heap; rw [hh, eq601]; exact CR584.trans (CHv.at X603 hZ2 hEL CR584.1)), ⟨_, rfl⟩, hW, hBk, hsame.mono (by decide) (by decide)⟩
        · show Steps p.tables e below (T603.setTop (mkF m 373 #[.val (.int kc), .val (.int lens), .val (.int q0), .val (.int q1), .val (.int q2), .val (.int (lens &&& (3 : Int32))), .val (.int (((lens.toUInt32 >>> ((2 : Int32) &&& 31).toUInt32).toInt32) &&& (3 : Int32))), .val (.int ((kc &&& (255 : Int32)).toUInt32.toUInt16.toUInt32.toInt32)), .val (.int ((((kc.toUInt32 >>> ((8 : Int32) &&& 31).toUInt32).toInt32) &&& (255 : Int32)).toUInt32.toUInt16.toUInt32.toInt32)), .val (.int ((((kc.toUInt32 >>> ((16 : Int32) &&& 31).toUInt32).toInt32) &&& (255 : Int32)).toUInt32.toUInt16.toUInt32.toInt32)), .val (.ref ky), .val (.int (q0.toInt8.toInt32)), .val (.int (q1.toInt8.toInt32)), .val (.int (q2.toInt8.toInt32)), .val (.ref b495), .val (.ref r534), .val (.ref ky), .val (.ref tb534), .val (.ref tb534)] [(.int (1 : Int32))])) _
          exact retN X603 hx (t := .boolean) Bd.returns (by simp) (hb hby at_373) hr
        · show own_Q0 Z kc lens q0 q1 q2 cs h0 n0 _ T603.heap _
          rw [eq601]
          exact ⟨rfl, N581⟩
set_option maxHeartbeats 40000000 in
theorem own_comes {Post : Tables → Env → Array Value → State → Outcome → State → Prop} (hpost : ∀ tb e args s v u, (limb_1_1.after args s (.returned v) u = true ∧ limb_1_2.after args s (.returned v) u = true ∧ True) → FramedW s (.returned v) u (Jvm.fieldLocs frame_1_writes args s ++ Jvm.arrayLocs frame_1_arrays args s ++ Jvm.staticLocs frame_1_statics s) 24 1152 → Post tb e args s (.returned v) u) :
    ArmFor flags0 classFile x code maxLocals ret World_1 tables_1 room_1 Calls_1 rest_1 Pre_1 Post := by
  intro l hfl _ _ p e ha hc hk s m args below hf hA hF happ hP
  obtain ⟨hcalls, hrest, hpre⟩ := hP
  obtain ⟨-, -, -, hnamed, -, -, -, hat⟩ := (Spec.applies_iff hf).mp happ
  obtain ⟨hg, hn⟩ := and_e (Cond.before_iff.mp (show (Jvm.Cond.and given_1 narrow_1).before args s = true from hpre))
  obtain ⟨g1, g2⟩ := and_e hg
  obtain ⟨g3, g4⟩ := and_e g2
  obtain ⟨g5, g6⟩ := and_e g4
  obtain ⟨g7, g8⟩ := and_e g6
  obtain ⟨g9, g10⟩ := and_e g8
  obtain ⟨w0, w1, w2, w3, w4, rfl⟩ : ∃ w0 w1 w2 w3 w4 : Value, args = #[w0, w1, w2, w3, w4] := by
    have hs : args.size = 5 := by simpa [Cond.value, given_1] using g1
    obtain ⟨L⟩ := args
    match L, hs with
    | [w0, w1, w2, w3, w4], _ => exact ⟨w0, w1, w2, w3, w4, rfl⟩
  have hw := fun d (hd : d ∈ tables_1) => atoms_spec (ws := Jvm.Cond.code x code maxLocals ret :: tables_1) hat d (List.mem_cons_of_mem _ hd)
  have hfit : Fit s := fun {y c} hc i hi => by
    obtain ⟨ha, rfl⟩ := Array.getElem?_eq_some_iff.mp hc
    have q := List.all_eq_true.mp ((Array.all_eq_true_iff_forall_mem.mp hF) _ (Array.getElem_mem ha)) i (List.mem_range.mpr hi)
    simpa [Array.getElem?_eq_getElem hi] using q
  obtain ⟨hsets, hown0⟩ := atoms_of _ (rest_1_c_eq ▸ (show rest_1_c.before _ s = true from hrest))
  have hr0 := Cond.before_iff.mp hown0
  obtain ⟨i0, ei0⟩ := is_v g3
  obtain rfl : w0 = (.int i0) := Option.some.inj ei0
  obtain ⟨i1, ei1⟩ := is_v g5
  obtain rfl : w1 = (.int i1) := Option.some.inj ei1
  obtain ⟨i2, ei2⟩ := is_v g7
  obtain rfl : w2 = (.int i2) := Option.some.inj ei2
  obtain ⟨i3, ei3⟩ := is_v g9
  obtain rfl : w3 = (.int i3) := Option.some.inj ei3
  obtain ⟨i4, ei4⟩ := is_v g10
  obtain rfl : w4 = (.int i4) := Option.some.inj ei4
  obtain ⟨icS, eS⟩ := is_v (Cond.before_iff.mp (hsets _ (List.mem_of_getElem? (i := 1) rfl)))
  have S_CSs : Sta s s.heap "java/lang/String" "COMPACT_STRINGS" "Z" (.int icS) := Sta.start eS (Or.inl (hsets _ (List.mem_of_getElem? (i := 0) rfl)))
  have hcs0 : ¬ icS = (0 : Int32) := gotF (Cond.eq_ints eS rfl) (not_v (Cond.before_iff.mp (hsets _ (List.mem_of_getElem? (i := 2) rfl))))
  have hCH : CHv s own_EL s.vm s.heap := CHv.start (own_EW hw) (fun q hq => hcalls.1 q hq) (by first | exact (hsets _ (List.mem_of_getElem? (i := 2) rfl)) | exact Cond.before_iff.mpr (Cond.before_iff.mp (hsets _ (List.mem_of_getElem? (i := 2) rfl)))) (hw _ (List.mem_of_getElem? (i := 19) rfl)) (hw _ (List.mem_of_getElem? (i := 1) rfl))
  obtain ⟨n, o, h1, h2, h3, _, L, rfl, ⟨rfl, N⟩, -, hq⟩ := own_rm0 l s _ hw tables_1 i0 i1 i2 i3 i4 icS s.heap s.heap.size (Nat.le_refl _) S_CSs hcs0 p e ha hc hk s m _ below hf ((Spec.applies_iff_loose hf).mp happ).1 ⟨rfl, State.Warmed39.refl s, rfl, hCH⟩ trivial
  refine ⟨n, _, h1, h2, h3, hpost _ _ _ _ _ _ ⟨Cond.after_iff.mpr rfl, Cond.after_iff.mpr (eq_i res_at (Term.int_eval (1)) rfl), trivial⟩ ⟨hq.1, hq.2.1, hq.2.2.1, (hq.2.2.2.sift fun y hy => Or.inr (N y hy)).mono (by decide) (by decide)⟩⟩
theorem main_1_1 : Claimed_1_1 := own_comes fun _ _ _ _ _ _ h hF => ⟨h.1, hF⟩
theorem main_1_2 : Claimed_1_2 := own_comes fun _ _ _ _ _ _ h hF => ⟨h.2.1, hF⟩
end Jvm.Pilot.@@N@@
namespace Jvm.Pilot.@@N@@
open Jvm Jvm.ClassFile Sem Op Lib Jvm.Free Jvm.Stand Jvm.Pilot.@@N@@.Jvm.D
/-! MADE BY PROGRAM (witnessworld.py) out of the Statement's table words and the real class files: 21 classes; the members and pool entries that the words name. The judged class is class 1, her method 1. -/
namespace start1
open Jvm.ClassFile
def u (s : String) : CpInfo := .utf8 (stringToUtf16 s)
/-- a pool by its gaps: so many unusable entries, then the entry; so many at the end -/
def gap : Nat → List CpInfo → List CpInfo
  | 0, r => r
  | n + 1, r => .unusable :: gap n r
def poolList (es : List (Nat × CpInfo)) (last : Nat) : List CpInfo := es.foldr (fun e r => gap e.1 (e.2 :: r)) (gap last [])
def pool (es : List (Nat × CpInfo)) (last : Nat) : Array CpInfo := ⟨poolList es last⟩
def fileOf (pool : Array CpInfo) (this : Nat) (attrs : Array Attribute := #[]) (ms : Array MethodInfo := #[]) (fl : Nat := 33) (sup : Nat := 0) (ifs : Array Nat := #[]) (fds : Array FieldInfo := #[]) : ClassFile where
  minorVersion := 0
  majorVersion := 65
  constantPool := pool
  accessFlags := fl
  thisClass := this
  superClass := sup
  interfaces := ifs
  fields := fds
  methods := ms
  attributes := attrs
def plain (name : String) (sup : Option ClassId) : Class where
  name := name
  kind := .ordinary
  loader := none
  accessFlags := 33
  super := sup
  interfaces := #[]
  cf := none
  fields := #[]
  methods := #[]
  instanceTypes := #[]
  staticTypes := #[]
  resolved := #[]
  callSites := []
  init := .initialized
  statics := none
  mirror := none

def pool0 : Array CpInfo := pool [(5, u "<init>"), (0, u "()V"), (1, .class_ 10), (1, u "java/lang/Object"), (85, u "clone"), (0, u "()Ljava/lang/Object;")] 26

def k0c0 : Code := { maxStack := 0, maxLocals := 1, code := object_method_1_code, exceptionTable := #[], attributes := #[] }
def k0m0 : Method := { name := "<init>", desc := "()V", sig := { parameters := [], returnType := none }, accessFlags := 1, code := some k0c0 }
def k0m1 : Method := { name := "clone", desc := "()Ljava/lang/Object;", sig := { parameters := [], returnType := some (.object "java/lang/Object") }, accessFlags := 260, code := none }
/-- java/lang/Object -/
def k0 : Class := { plain "java/lang/Object" none with
  accessFlags := 33
  interfaces := #[]
  cf := some (fileOf pool0 8 #[] #[{ accessFlags := 1, nameIndex := 5, descriptorIndex := 6, attributes := #[] }, { accessFlags := 260, nameIndex := 96, descriptorIndex := 97, attributes := #[] }] 33 0 #[] #[])
  fields := #[]
  methods := #[k0m0, k0m1]
  instanceTypes := #[]
  staticTypes := #[]
  resolved := Array.replicate 124 none
  statics := none }

def pool1 : Array CpInfo := pool [(2, .class_ 4), (1, u "java/lang/Object"), (0, u "<init>"), (0, u "()V"), (0, .class_ 8), (0, u "java/lang/String"), (0, .methodref 7 10), (0, .nameAndType 5 11), (0, u "([C)V"), (0, .methodref 13 14), (0, .class_ 15), (0, .nameAndType 16 17), (0, u "com/example/nestwarden/nestwarden/store/Journal$Change"), (0, u "keep"), (0, u "(Ljava/lang/String;[B)Lcom/example/nestwarden/nestwarden/store/Journal$Change;"), (0, .methodref 13 19), (0, .nameAndType 20 21), (0, u "key"), (0, u "()Ljava/lang/String;"), (0, .methodref 13 23), (0, .nameAndType 24 25), (0, u "record"), (0, u "()[B"), (0, .methodref 7 27), (0, .nameAndType 28 29), (0, u "equals"), (0, u "(Ljava/lang/Object;)Z"), (0, .methodref 31 32), (0, .class_ 33), (0, .nameAndType 34 35), (0, u "com/example/nestwarden/nestwarden/store/ChangeKeepPinLaw"), (0, u "same"), (0, u "([BBBB)Z"), (0, .methodref 31 37), (0, .nameAndType 38 39), (0, u "flip"), (0, u "([B)V"), (2, u "law"), (0, u "(IIIII)Z")] 9

def k1m0 : Method := { name := "<init>", desc := "()V", sig := { parameters := [], returnType := none }, accessFlags := 1, code := none }
def k1c1 : Code := { maxStack := 6, maxLocals := 19, code := code, exceptionTable := #[], attributes := #[] }
def k1m1 : Method := { name := "law", desc := "(IIIII)Z", sig := { parameters := [.int, .int, .int, .int, .int], returnType := some .boolean }, accessFlags := 9, code := some k1c1 }
def k1c2 : Code := { maxStack := 2, maxLocals := 4, code := method_3_code, exceptionTable := #[], attributes := #[] }
def k1m2 : Method := { name := "same", desc := "([BBBB)Z", sig := { parameters := [(.array .byte), .byte, .byte, .byte], returnType := some .boolean }, accessFlags := 10, code := some k1c2 }
def k1c3 : Code := { maxStack := 4, maxLocals := 1, code := method_4_code, exceptionTable := #[], attributes := #[] }
def k1m3 : Method := { name := "flip", desc := "([B)V", sig := { parameters := [(.array .byte)], returnType := none }, accessFlags := 10, code := some k1c3 }
/-- com/example/nestwarden/nestwarden/store/ChangeKeepPinLaw -/
def k1 : Class := { plain "com/example/nestwarden/nestwarden/store/ChangeKeepPinLaw" (some 0) with
  accessFlags := 49
  interfaces := #[]
  cf := some (fileOf pool1 31 #[] #[{ accessFlags := 1, nameIndex := 5, descriptorIndex := 6, attributes := #[] }, { accessFlags := 9, nameIndex := 42, descriptorIndex := 43, attributes := #[] }, { accessFlags := 10, nameIndex := 34, descriptorIndex := 35, attributes := #[] }, { accessFlags := 10, nameIndex := 38, descriptorIndex := 39, attributes := #[] }] 49 2 #[] #[])
  fields := #[]
  methods := #[k1m0, k1m1, k1m2, k1m3]
  instanceTypes := #[]
  staticTypes := #[]
  resolved := Array.replicate 53 none
  statics := none }

def pool2 : Array CpInfo := pool [(1, .class_ 2), (0, u "java/io/Serializable"), (0, .class_ 4), (0, u "java/lang/Object")] 2

/-- java/io/Serializable -/
def k2 : Class := { plain "java/io/Serializable" (some 0) with
  accessFlags := 1537
  interfaces := #[]
  cf := some (fileOf pool2 1 #[] #[] 1537 3 #[] #[])
  fields := #[]
  methods := #[]
  instanceTypes := #[]
  staticTypes := #[]
  resolved := Array.replicate 7 none
  statics := none }

def pool3 : Array CpInfo := pool [(1, .class_ 2), (0, u "java/lang/Comparable"), (0, .class_ 4), (0, u "java/lang/Object")] 7

/-- java/lang/Comparable -/
def k3 : Class := { plain "java/lang/Comparable" (some 0) with
  accessFlags := 1537
  interfaces := #[]
  cf := some (fileOf pool3 1 #[] #[] 1537 3 #[] #[])
  fields := #[]
  methods := #[]
  instanceTypes := #[]
  staticTypes := #[]
  resolved := Array.replicate 12 none
  statics := none }

def pool4 : Array CpInfo := pool [(2, .class_ 4), (1, u "java/lang/CharSequence"), (42, .class_ 48), (0, u "java/lang/CharSequence$1CodePointIterator"), (10, .class_ 60), (0, u "java/lang/CharSequence$1CharIterator"), (5, .class_ 67), (0, u "java/lang/Object")] 63

/-- java/lang/CharSequence -/
def k4 : Class := { plain "java/lang/CharSequence" (some 0) with
  accessFlags := 1537
  interfaces := #[]
  cf := some (fileOf pool4 2 #[.nestMembers #[47, 59]] #[] 1537 66 #[] #[])
  fields := #[]
  methods := #[]
  instanceTypes := #[]
  staticTypes := #[]
  resolved := Array.replicate 131 none
  statics := none }

def pool5 : Array CpInfo := pool [(1, .class_ 2), (0, u "java/lang/constant/Constable"), (0, .class_ 4), (0, u "java/lang/Object")] 6

/-- java/lang/constant/Constable -/
def k5 : Class := { plain "java/lang/constant/Constable" (some 0) with
  accessFlags := 1537
  interfaces := #[]
  cf := some (fileOf pool5 1 #[] #[] 1537 3 #[] #[])
  fields := #[]
  methods := #[]
  instanceTypes := #[]
  staticTypes := #[]
  resolved := Array.replicate 11 none
  statics := none }

def pool6 : Array CpInfo := pool [(1, .class_ 2), (0, u "java/lang/constant/ConstantDesc"), (0, .class_ 4), (0, u "java/lang/Object")] 32

/-- java/lang/constant/ConstantDesc -/
def k6 : Class := { plain "java/lang/constant/ConstantDesc" (some 0) with
  accessFlags := 1537
  interfaces := #[]
  cf := some (fileOf pool6 1 #[] #[] 1537 3 #[] #[])
  fields := #[]
  methods := #[]
  instanceTypes := #[]
  staticTypes := #[]
  resolved := Array.replicate 37 none
  statics := none }

def pool7 : Array CpInfo := pool [(1, .methodref 2 3), (0, .class_ 4), (0, .nameAndType 5 6), (0, u "java/lang/Object"), (0, u "<init>"), (0, u "()V"), (0, .string 8), (0, u ""), (0, .fieldref 10 11), (0, .class_ 12), (0, .nameAndType 13 14), (0, u "java/lang/String"), (0, u "value"), (0, u "[B"), (0, .fieldref 10 16), (0, .nameAndType 17 18), (0, u "coder"), (0, u "B"), (2, u "hash"), (0, u "I"), (2, u "hashIsZero"), (0, u "Z"), (0, .methodref 10 28), (0, .nameAndType 5 29), (0, u "([CIILjava/lang/Void;)V"), (8, .fieldref 10 39), (0, .nameAndType 40 26), (0, u "COMPACT_STRINGS"), (1, .class_ 44), (1, u "java/lang/StringUTF16"), (0, u "compress"), (1, .methodref 42 48), (0, .nameAndType 49 50), (0, u "coderFromArrayLen"), (0, u "([BI)B"), (126, .methodref 42 178), (0, .nameAndType 45 179), (0, u "([CII)[B"), (363, u "equals"), (29, u "(Ljava/lang/Object;)Z"), (1, .class_ 576), (0, u "java/lang/CharSequence"), (22, u "CASE_INSENSITIVE_ORDER"), (0, u "Ljava/util/Comparator;"), (409, u "([C)V"), (90, u "serialPersistentFields"), (0, u "[Ljava/io/ObjectStreamField;"), (0, .class_ 1104), (0, u "java/lang/String$CaseInsensitiveComparator"), (1, .class_ 1107), (0, u "java/io/Serializable"), (0, .class_ 1109), (0, u "java/lang/Comparable"), (0, .class_ 1111), (0, u "java/lang/constant/Constable"), (0, .class_ 1113), (0, u "java/lang/constant/ConstantDesc"), (2, u "serialVersionUID"), (0, u "J"), (3, u "REPL"), (0, u "C"), (2, u "LATIN1"), (1, u "UTF16")] 323

def k7m0 : Method := { name := "<init>", desc := "()V", sig := { parameters := [], returnType := none }, accessFlags := 1, code := none }
def k7c1 : Code := { maxStack := 5, maxLocals := 2, code := jdk_42_method_3_code, exceptionTable := #[], attributes := #[] }
def k7m1 : Method := { name := "<init>", desc := "([C)V", sig := { parameters := [(.array .char)], returnType := none }, accessFlags := 1, code := some k7c1 }
def k7c2 : Code := { maxStack := 2, maxLocals := 3, code := jdk_42_method_66_code, exceptionTable := #[], attributes := #[] }
def k7m2 : Method := { name := "equals", desc := "(Ljava/lang/Object;)Z", sig := { parameters := [(.object "java/lang/Object")], returnType := some .boolean }, accessFlags := 1, code := some k7c2 }
def k7c3 : Code := { maxStack := 4, maxLocals := 6, code := jdk_42_method_149_code, exceptionTable := #[], attributes := #[] }
def k7m3 : Method := { name := "<init>", desc := "([CIILjava/lang/Void;)V", sig := { parameters := [(.array .char), .int, .int, (.object "java/lang/Void")], returnType := none }, accessFlags := 2, code := some k7c3 }
/-- java/lang/String -/
def k7 : Class := { plain "java/lang/String" (some 0) with
  accessFlags := 49
  interfaces := #[2, 3, 4, 5, 6]
  cf := some (fileOf pool7 10 #[.nestMembers #[1103]] #[{ accessFlags := 1, nameIndex := 5, descriptorIndex := 6, attributes := #[] }, { accessFlags := 1, nameIndex := 5, descriptorIndex := 1010, attributes := #[] }, { accessFlags := 1, nameIndex := 543, descriptorIndex := 573, attributes := #[] }, { accessFlags := 2, nameIndex := 5, descriptorIndex := 29, attributes := #[] }] 49 2 #[1106, 1108, 575, 1110, 1112] #[{ accessFlags := 18, nameIndex := 13, descriptorIndex := 14, attributes := #[] }, { accessFlags := 18, nameIndex := 17, descriptorIndex := 18, attributes := #[] }, { accessFlags := 2, nameIndex := 21, descriptorIndex := 22, attributes := #[] }, { accessFlags := 2, nameIndex := 25, descriptorIndex := 26, attributes := #[] }, { accessFlags := 26, nameIndex := 1116, descriptorIndex := 1117, attributes := #[] }, { accessFlags := 24, nameIndex := 40, descriptorIndex := 26, attributes := #[] }, { accessFlags := 26, nameIndex := 1101, descriptorIndex := 1102, attributes := #[] }, { accessFlags := 26, nameIndex := 1121, descriptorIndex := 1122, attributes := #[] }, { accessFlags := 25, nameIndex := 599, descriptorIndex := 600, attributes := #[] }, { accessFlags := 24, nameIndex := 1125, descriptorIndex := 18, attributes := #[] }, { accessFlags := 24, nameIndex := 1127, descriptorIndex := 18, attributes := #[] }])
  fields := #[{ name := "value", type := (.array .byte), accessFlags := 18, slot := 0, constantValue := 0 }, { name := "coder", type := .byte, accessFlags := 18, slot := 1, constantValue := 0 }, { name := "hash", type := .int, accessFlags := 2, slot := 2, constantValue := 0 }, { name := "hashIsZero", type := .boolean, accessFlags := 2, slot := 3, constantValue := 0 }, { name := "serialVersionUID", type := .long, accessFlags := 26, slot := 0, constantValue := 0 }, { name := "COMPACT_STRINGS", type := .boolean, accessFlags := 24, slot := 1, constantValue := 0 }, { name := "serialPersistentFields", type := (.array (.object "java/io/ObjectStreamField")), accessFlags := 26, slot := 2, constantValue := 0 }, { name := "REPL", type := .char, accessFlags := 26, slot := 3, constantValue := 0 }, { name := "CASE_INSENSITIVE_ORDER", type := (.object "java/util/Comparator"), accessFlags := 25, slot := 4, constantValue := 0 }, { name := "LATIN1", type := .byte, accessFlags := 24, slot := 5, constantValue := 0 }, { name := "UTF16", type := .byte, accessFlags := 24, slot := 6, constantValue := 0 }]
  methods := #[k7m0, k7m1, k7m2, k7m3]
  instanceTypes := #[(.array .byte), .byte, .int, .boolean]
  staticTypes := #[.long, .boolean, (.array (.object "java/io/ObjectStreamField")), .char, (.object "java/util/Comparator"), .byte, .byte]
  resolved := Array.replicate 1451 none
  statics := some 0 }

def pool8 : Array CpInfo := pool [(6, .class_ 8), (1, u "java/lang/Object"), (0, u "<init>"), (0, u "()V"), (1, .class_ 14), (1, u "java/lang/StringUTF16"), (31, u "$assertionsDisabled"), (0, u "Z"), (13, u "HI_BYTE_SHIFT"), (0, u "I"), (2, u "LO_BYTE_SHIFT"), (49, .methodref 12 116), (0, .nameAndType 117 118), (0, u "compress"), (0, u "([CI[BII)I"), (3, u "([CII)[B"), (138, u "coderFromArrayLen"), (0, u "([BI)B"), (106, .class_ 371), (1, u "java/lang/StringUTF16$LinesSpliterator"), (58, u "MAX_LENGTH"), (196, .class_ 628), (0, u "java/lang/StringUTF16$CodePointsSpliterator"), (0, .class_ 630), (0, u "java/lang/StringUTF16$CharsSpliterator")] 4

def k8m0 : Method := { name := "<init>", desc := "()V", sig := { parameters := [], returnType := none }, accessFlags := 0, code := none }
def k8c1 : Code := { maxStack := 2, maxLocals := 2, code := jdk_52_method_15_code, exceptionTable := #[], attributes := #[] }
def k8m1 : Method := { name := "coderFromArrayLen", desc := "([BI)B", sig := { parameters := [(.array .byte), .int], returnType := some .byte }, accessFlags := 8, code := some k8c1 }
def k8c2 : Code := { maxStack := 5, maxLocals := 6, code := jdk_52_method_16_code, exceptionTable := #[], attributes := #[] }
def k8m2 : Method := { name := "compress", desc := "([CII)[B", sig := { parameters := [(.array .char), .int, .int], returnType := some (.array .byte) }, accessFlags := 9, code := some k8c2 }
def k8c3 : Code := { maxStack := 3, maxLocals := 7, code := jdk_52_method_21_code, exceptionTable := #[], attributes := #[] }
def k8m3 : Method := { name := "compress", desc := "([CI[BII)I", sig := { parameters := [(.array .char), .int, (.array .byte), .int, .int], returnType := some .int }, accessFlags := 9, code := some k8c3 }
/-- java/lang/StringUTF16 -/
def k8 : Class := { plain "java/lang/StringUTF16" (some 0) with
  accessFlags := 48
  interfaces := #[]
  cf := some (fileOf pool8 12 #[.nestMembers #[627, 629, 369]] #[{ accessFlags := 0, nameIndex := 9, descriptorIndex := 10, attributes := #[] }, { accessFlags := 8, nameIndex := 261, descriptorIndex := 262, attributes := #[] }, { accessFlags := 9, nameIndex := 117, descriptorIndex := 122, attributes := #[] }, { accessFlags := 9, nameIndex := 117, descriptorIndex := 118, attributes := #[] }] 48 6 #[] #[{ accessFlags := 26, nameIndex := 61, descriptorIndex := 62, attributes := #[] }, { accessFlags := 26, nameIndex := 65, descriptorIndex := 62, attributes := #[] }, { accessFlags := 24, nameIndex := 430, descriptorIndex := 62, attributes := #[] }, { accessFlags := 4120, nameIndex := 46, descriptorIndex := 47, attributes := #[] }])
  fields := #[{ name := "HI_BYTE_SHIFT", type := .int, accessFlags := 26, slot := 0, constantValue := 0 }, { name := "LO_BYTE_SHIFT", type := .int, accessFlags := 26, slot := 1, constantValue := 0 }, { name := "MAX_LENGTH", type := .int, accessFlags := 24, slot := 2, constantValue := 0 }, { name := "$assertionsDisabled", type := .boolean, accessFlags := 4120, slot := 3, constantValue := 0 }]
  methods := #[k8m0, k8m1, k8m2, k8m3]
  instanceTypes := #[]
  staticTypes := #[.int, .int, .int, .boolean]
  resolved := Array.replicate 635 none
  statics := none }

def pool9 : Array CpInfo := pool [(1, .methodref 2 3), (0, .class_ 4), (0, .nameAndType 5 6), (0, u "java/lang/Object"), (0, u "<init>"), (0, u "()V"), (0, .class_ 8), (0, u "java/lang/Record")] 13

def k9c0 : Code := { maxStack := 1, maxLocals := 1, code := jdk_30_method_1_code, exceptionTable := #[], attributes := #[] }
def k9m0 : Method := { name := "<init>", desc := "()V", sig := { parameters := [], returnType := none }, accessFlags := 4, code := some k9c0 }
/-- java/lang/Record -/
def k9 : Class := { plain "java/lang/Record" (some 0) with
  accessFlags := 1057
  interfaces := #[]
  cf := some (fileOf pool9 7 #[] #[{ accessFlags := 4, nameIndex := 5, descriptorIndex := 6, attributes := #[] }] 1057 2 #[] #[])
  fields := #[]
  methods := #[k9m0]
  instanceTypes := #[]
  staticTypes := #[]
  resolved := Array.replicate 22 none
  statics := none }

def pool10 : Array CpInfo := pool [(1, .methodref 2 3), (0, .class_ 4), (0, .nameAndType 5 6), (0, u "java/lang/Record"), (0, u "<init>"), (0, u "()V"), (0, .fieldref 8 9), (0, .class_ 10), (0, .nameAndType 11 12), (0, u "com/example/nestwarden/nestwarden/store/Journal$Change"), (0, u "key"), (0, u "Ljava/lang/String;"), (0, .fieldref 8 14), (0, .nameAndType 15 16), (0, u "record"), (0, u "[B"), (0, .methodref 18 19), (0, .class_ 16), (0, .nameAndType 20 21), (0, u "clone"), (0, u "()Ljava/lang/Object;"), (0, .methodref 8 23), (0, .nameAndType 5 24), (0, u "(Ljava/lang/String;[B)V"), (15, u "keep"), (0, u "(Ljava/lang/String;[B)Lcom/example/nestwarden/nestwarden/store/Journal$Change;"), (2, u "()Ljava/lang/String;"), (2, u "()[B"), (3, .class_ 52), (0, u "com/example/nestwarden/nestwarden/store/Journal")] 20

def k10c0 : Code := { maxStack := 2, maxLocals := 3, code := prog_49_method_1_code, exceptionTable := #[], attributes := #[] }
def k10m0 : Method := { name := "<init>", desc := "(Ljava/lang/String;[B)V", sig := { parameters := [(.object "java/lang/String"), (.array .byte)], returnType := none }, accessFlags := 1, code := some k10c0 }
def k10c1 : Code := { maxStack := 4, maxLocals := 2, code := prog_49_method_2_code, exceptionTable := #[], attributes := #[] }
def k10m1 : Method := { name := "keep", desc := "(Ljava/lang/String;[B)Lcom/example/nestwarden/nestwarden/store/Journal$Change;", sig := { parameters := [(.object "java/lang/String"), (.array .byte)], returnType := some (.object "com/example/nestwarden/nestwarden/store/Journal$Change") }, accessFlags := 9, code := some k10c1 }
def k10c2 : Code := { maxStack := 1, maxLocals := 1, code := prog_49_method_7_code, exceptionTable := #[], attributes := #[] }
def k10m2 : Method := { name := "key", desc := "()Ljava/lang/String;", sig := { parameters := [], returnType := some (.object "java/lang/String") }, accessFlags := 1, code := some k10c2 }
def k10c3 : Code := { maxStack := 1, maxLocals := 1, code := prog_49_method_8_code, exceptionTable := #[], attributes := #[] }
def k10m3 : Method := { name := "record", desc := "()[B", sig := { parameters := [], returnType := some (.array .byte) }, accessFlags := 1, code := some k10c3 }
/-- com/example/nestwarden/nestwarden/store/Journal$Change -/
def k10 : Class := { plain "com/example/nestwarden/nestwarden/store/Journal$Change" (some 9) with
  accessFlags := 49
  interfaces := #[]
  cf := some (fileOf pool10 8 #[.nestHost 51] #[{ accessFlags := 1, nameIndex := 5, descriptorIndex := 24, attributes := #[] }, { accessFlags := 9, nameIndex := 40, descriptorIndex := 41, attributes := #[] }, { accessFlags := 1, nameIndex := 11, descriptorIndex := 44, attributes := #[] }, { accessFlags := 1, nameIndex := 15, descriptorIndex := 47, attributes := #[] }] 49 2 #[] #[{ accessFlags := 18, nameIndex := 11, descriptorIndex := 12, attributes := #[] }, { accessFlags := 18, nameIndex := 15, descriptorIndex := 16, attributes := #[] }])
  fields := #[{ name := "key", type := (.object "java/lang/String"), accessFlags := 18, slot := 0, constantValue := 0 }, { name := "record", type := (.array .byte), accessFlags := 18, slot := 1, constantValue := 0 }]
  methods := #[k10m0, k10m1, k10m2, k10m3]
  instanceTypes := #[(.object "java/lang/String"), (.array .byte)]
  staticTypes := #[]
  resolved := Array.replicate 73 none
  statics := none }

def pool11 : Array CpInfo := pool [(1, .class_ 2), (0, u "java/lang/Cloneable"), (0, .class_ 4), (0, u "java/lang/Object")] 2

/-- java/lang/Cloneable -/
def k11 : Class := { plain "java/lang/Cloneable" (some 0) with
  accessFlags := 1537
  interfaces := #[]
  cf := some (fileOf pool11 1 #[] #[] 1537 3 #[] #[])
  fields := #[]
  methods := #[]
  instanceTypes := #[]
  staticTypes := #[]
  resolved := Array.replicate 7 none
  statics := none }

def pool12 : Array CpInfo := pool [(4, .class_ 6), (1, u "java/lang/Object"), (0, u "<init>"), (0, u "()V"), (5, .class_ 16), (1, u "java/lang/StringLatin1"), (104, u "$assertionsDisabled"), (0, u "Z"), (98, .class_ 223), (1, u "java/lang/StringLatin1$LinesSpliterator"), (166, .class_ 391), (0, u "java/lang/StringLatin1$CharsSpliterator")] 3

def k12m0 : Method := { name := "<init>", desc := "()V", sig := { parameters := [], returnType := none }, accessFlags := 0, code := none }
/-- java/lang/StringLatin1 -/
def k12 : Class := { plain "java/lang/StringLatin1" (some 0) with
  accessFlags := 48
  interfaces := #[]
  cf := some (fileOf pool12 14 #[.nestMembers #[390, 221]] #[{ accessFlags := 0, nameIndex := 7, descriptorIndex := 8, attributes := #[] }] 48 4 #[] #[{ accessFlags := 4120, nameIndex := 121, descriptorIndex := 122, attributes := #[] }])
  fields := #[{ name := "$assertionsDisabled", type := .boolean, accessFlags := 4120, slot := 0, constantValue := 0 }]
  methods := #[k12m0]
  instanceTypes := #[]
  staticTypes := #[.boolean]
  resolved := Array.replicate 395 none
  statics := none }

def pool13 : Array CpInfo := pool [(2, .class_ 4), (1, u "java/lang/Object"), (0, u "<init>"), (0, u "()V"), (17, .class_ 26), (1, u "jdk/internal/util/Preconditions"), (28, .class_ 56), (0, u "jdk/internal/util/Preconditions$4"), (57, .class_ 115), (0, u "jdk/internal/util/Preconditions$1"), (7, u "SIOOBE_FORMATTER"), (0, u "Ljava/util/function/BiFunction;"), (0, .class_ 126), (0, u "jdk/internal/util/Preconditions$2"), (3, u "AIOOBE_FORMATTER"), (0, .class_ 132), (0, u "jdk/internal/util/Preconditions$3"), (3, u "IOOBE_FORMATTER")] 57

def k13m0 : Method := { name := "<init>", desc := "()V", sig := { parameters := [], returnType := none }, accessFlags := 1, code := none }
/-- jdk/internal/util/Preconditions -/
def k13 : Class := { plain "jdk/internal/util/Preconditions" (some 0) with
  accessFlags := 33
  interfaces := #[]
  cf := some (fileOf pool13 24 #[.nestMembers #[55, 131, 125, 114]] #[{ accessFlags := 1, nameIndex := 5, descriptorIndex := 6, attributes := #[] }] 33 2 #[] #[{ accessFlags := 25, nameIndex := 123, descriptorIndex := 124, attributes := #[] }, { accessFlags := 25, nameIndex := 130, descriptorIndex := 124, attributes := #[] }, { accessFlags := 25, nameIndex := 136, descriptorIndex := 124, attributes := #[] }])
  fields := #[{ name := "SIOOBE_FORMATTER", type := (.object "java/util/function/BiFunction"), accessFlags := 25, slot := 0, constantValue := 0 }, { name := "AIOOBE_FORMATTER", type := (.object "java/util/function/BiFunction"), accessFlags := 25, slot := 1, constantValue := 0 }, { name := "IOOBE_FORMATTER", type := (.object "java/util/function/BiFunction"), accessFlags := 25, slot := 2, constantValue := 0 }]
  methods := #[k13m0]
  instanceTypes := #[]
  staticTypes := #[(.object "java/util/function/BiFunction"), (.object "java/util/function/BiFunction"), (.object "java/util/function/BiFunction")]
  resolved := Array.replicate 194 none
  statics := some 1 }

def pool14 : Array CpInfo := pool [(9, u "<init>"), (6, .class_ 18), (1, u "java/lang/Object"), (0, u "()V"), (1, .class_ 23), (1, u "jdk/internal/util/ArraysSupport"), (0, u "LOG2_ARRAY_LONG_INDEX_SCALE"), (0, u "I"), (2, u "U"), (0, u "Ljdk/internal/misc/Unsafe;"), (8, u "BIG_ENDIAN"), (0, u "Z"), (8, u "LOG2_BYTE_BIT_SIZE"), (4, u "LOG2_ARRAY_INT_INDEX_SCALE"), (54, u "JLA"), (0, u "Ljdk/internal/access/JavaLangAccess;"), (11, u "LOG2_ARRAY_BOOLEAN_INDEX_SCALE"), (9, u "LOG2_ARRAY_BYTE_INDEX_SCALE"), (5, u "LOG2_ARRAY_CHAR_INDEX_SCALE"), (5, u "LOG2_ARRAY_SHORT_INDEX_SCALE"), (18, u "LOG2_ARRAY_FLOAT_INDEX_SCALE"), (24, u "LOG2_ARRAY_DOUBLE_INDEX_SCALE"), (89, u "T_BOOLEAN"), (2, u "T_CHAR"), (1, u "T_FLOAT"), (1, u "T_DOUBLE"), (1, u "T_BYTE"), (1, u "T_SHORT"), (1, u "T_INT"), (1, u "T_LONG"), (1, u "SOFT_MAX_ARRAY_LENGTH")] 83

def k14m0 : Method := { name := "<init>", desc := "()V", sig := { parameters := [], returnType := none }, accessFlags := 2, code := none }
/-- jdk/internal/util/ArraysSupport -/
def k14 : Class := { plain "jdk/internal/util/ArraysSupport" (some 0) with
  accessFlags := 33
  interfaces := #[]
  cf := some (fileOf pool14 21 #[] #[{ accessFlags := 2, nameIndex := 9, descriptorIndex := 19, attributes := #[] }] 33 16 #[] #[{ accessFlags := 24, nameIndex := 28, descriptorIndex := 29, attributes := #[] }, { accessFlags := 26, nameIndex := 38, descriptorIndex := 39, attributes := #[] }, { accessFlags := 25, nameIndex := 121, descriptorIndex := 25, attributes := #[] }, { accessFlags := 25, nameIndex := 131, descriptorIndex := 25, attributes := #[] }, { accessFlags := 25, nameIndex := 137, descriptorIndex := 25, attributes := #[] }, { accessFlags := 25, nameIndex := 143, descriptorIndex := 25, attributes := #[] }, { accessFlags := 25, nameIndex := 53, descriptorIndex := 25, attributes := #[] }, { accessFlags := 25, nameIndex := 24, descriptorIndex := 25, attributes := #[] }, { accessFlags := 25, nameIndex := 162, descriptorIndex := 25, attributes := #[] }, { accessFlags := 25, nameIndex := 187, descriptorIndex := 25, attributes := #[] }, { accessFlags := 26, nameIndex := 48, descriptorIndex := 25, attributes := #[] }, { accessFlags := 25, nameIndex := 277, descriptorIndex := 25, attributes := #[] }, { accessFlags := 25, nameIndex := 280, descriptorIndex := 25, attributes := #[] }, { accessFlags := 25, nameIndex := 282, descriptorIndex := 25, attributes := #[] }, { accessFlags := 25, nameIndex := 284, descriptorIndex := 25, attributes := #[] }, { accessFlags := 25, nameIndex := 286, descriptorIndex := 25, attributes := #[] }, { accessFlags := 25, nameIndex := 288, descriptorIndex := 25, attributes := #[] }, { accessFlags := 25, nameIndex := 290, descriptorIndex := 25, attributes := #[] }, { accessFlags := 25, nameIndex := 292, descriptorIndex := 25, attributes := #[] }, { accessFlags := 26, nameIndex := 108, descriptorIndex := 109, attributes := #[] }, { accessFlags := 25, nameIndex := 294, descriptorIndex := 25, attributes := #[] }])
  fields := #[{ name := "U", type := (.object "jdk/internal/misc/Unsafe"), accessFlags := 24, slot := 0, constantValue := 0 }, { name := "BIG_ENDIAN", type := .boolean, accessFlags := 26, slot := 1, constantValue := 0 }, { name := "LOG2_ARRAY_BOOLEAN_INDEX_SCALE", type := .int, accessFlags := 25, slot := 2, constantValue := 0 }, { name := "LOG2_ARRAY_BYTE_INDEX_SCALE", type := .int, accessFlags := 25, slot := 3, constantValue := 0 }, { name := "LOG2_ARRAY_CHAR_INDEX_SCALE", type := .int, accessFlags := 25, slot := 4, constantValue := 0 }, { name := "LOG2_ARRAY_SHORT_INDEX_SCALE", type := .int, accessFlags := 25, slot := 5, constantValue := 0 }, { name := "LOG2_ARRAY_INT_INDEX_SCALE", type := .int, accessFlags := 25, slot := 6, constantValue := 0 }, { name := "LOG2_ARRAY_LONG_INDEX_SCALE", type := .int, accessFlags := 25, slot := 7, constantValue := 0 }, { name := "LOG2_ARRAY_FLOAT_INDEX_SCALE", type := .int, accessFlags := 25, slot := 8, constantValue := 0 }, { name := "LOG2_ARRAY_DOUBLE_INDEX_SCALE", type := .int, accessFlags := 25, slot := 9, constantValue := 0 }, { name := "LOG2_BYTE_BIT_SIZE", type := .int, accessFlags := 26, slot := 10, constantValue := 0 }, { name := "T_BOOLEAN", type := .int, accessFlags := 25, slot := 11, constantValue := 0 }, { name := "T_CHAR", type := .int, accessFlags := 25, slot := 12, constantValue := 0 }, { name := "T_FLOAT", type := .int, accessFlags := 25, slot := 13, constantValue := 0 }, { name := "T_DOUBLE", type := .int, accessFlags := 25, slot := 14, constantValue := 0 }, { name := "T_BYTE", type := .int, accessFlags := 25, slot := 15, constantValue := 0 }, { name := "T_SHORT", type := .int, accessFlags := 25, slot := 16, constantValue := 0 }, { name := "T_INT", type := .int, accessFlags := 25, slot := 17, constantValue := 0 }, { name := "T_LONG", type := .int, accessFlags := 25, slot := 18, constantValue := 0 }, { name := "JLA", type := (.object "jdk/internal/access/JavaLangAccess"), accessFlags := 26, slot := 19, constantValue := 0 }, { name := "SOFT_MAX_ARRAY_LENGTH", type := .int, accessFlags := 25, slot := 20, constantValue := 0 }]
  methods := #[k14m0]
  instanceTypes := #[]
  staticTypes := #[(.object "jdk/internal/misc/Unsafe"), .boolean, .int, .int, .int, .int, .int, .int, .int, .int, .int, .int, .int, .int, .int, .int, .int, .int, .int, (.object "jdk/internal/access/JavaLangAccess"), .int]
  resolved := Array.replicate 378 none
  statics := none }

/-- the primitive byte -/
def k15 : Class := { plain "byte" none with kind := .primitive 'B', accessFlags := 0x411 }
/-- [B -/
def k16 : Class := { plain "[B" (some 0) with kind := .array 15 .byte, interfaces := #[11, 2], accessFlags := 1041 }

/-- the primitive char -/
def k17 : Class := { plain "char" none with kind := .primitive 'C', accessFlags := 0x411 }
/-- [C -/
def k18 : Class := { plain "[C" (some 0) with kind := .array 17 .char, interfaces := #[11, 2], accessFlags := 1041 }

/-- the primitive int -/
def k19 : Class := { plain "int" none with kind := .primitive 'I', accessFlags := 0x411 }
/-- [I -/
def k20 : Class := { plain "[I" (some 0) with kind := .array 19 .int, interfaces := #[11, 2], accessFlags := 1041 }

def heap : Heap := #[{ cls := 7, slots := #[.long 0, .int 1, .null, .int 0, .null, .int 0, .int 0], vm := .statics 7 },
  { cls := 13, slots := #[.null, .null, .null], vm := .statics 13 }]
def classes : Array Class := #[k0, k1, k2, k3, k4, k5, k6, k7, k8, k9, k10, k11, k12, k13, k14, k15, k16, k17, k18, k19, k20]
def interned : List (Array UInt16 × Addr) := []
def slotsUsed : Nat := 10
def theMethod : MethodId := ⟨1, 1⟩
def args0 : Array Value := #[.int 1, .int 2, .int 3, .int 4, .int 5]
def aboutOver (below : List Frame) : State where
  vm := { classes := classes, interned := interned.toArray }
  heap := heap
  slotsUsed := slotsUsed
  threads := #[{ frames := .invoking theMethod args0 :: below }]
def below0 : List Frame := [.native { method := ⟨0, 0⟩, args := #[] }]
def about1 : State := aboutOver below0
def p0 : Program := .bare "" "" ""
def e0 : Env := launch0.env 0 0 0
theorem w_frames : about1.frames = Frame.invoking theMethod args0 :: below0 := rfl
set_option maxRecDepth 65536 in
theorem w_args : argsFit about1.vm theMethod args0 = true := by decide +kernel
set_option maxRecDepth 65536 in
theorem w_heap : heapFits about1 = true := by decide +kernel
set_option maxRecDepth 65536 in
theorem w_runnable : about1.curStatus? = some .runnable := by decide +kernel
set_option maxRecDepth 65536 in
theorem w_alone : about1.alone = true := by decide +kernel
set_option maxRecDepth 65536 in
theorem w_named : about1.methodNamed? x = some theMethod := by decide +kernel
set_option maxRecDepth 65536 in
theorem w_hears : about1.hears theMethod below0 = true := by decide +kernel
set_option maxRecDepth 65536 in
theorem w_ripe : about1.ripe theMethod args0 below0 = true := by decide +kernel
theorem w_running : about1.status = .running := rfl
set_option maxRecDepth 65536 in
theorem w_room : about1.hasRoom e0.platform room_1 = true :=
  launch0.hasRoom_least _ room_1 (by decide +kernel) (by decide +kernel) (by decide +kernel) (by decide +kernel) (by decide +kernel) (by decide +kernel)
theorem allAtoms_all (ts : List Jvm.Cond) (a : Array Jvm.Value) (st : Jvm.State) : (allAtoms ts).before a st = ts.all (fun c => c.before a st) := by
  induction ts with
  | nil => rfl
  | cons c t ih =>
    show (Jvm.Cond.and c (allAtoms t)).before a st = _
    rw [Jvm.Cond.before_and, ih, List.all_cons]
def words1 : List Jvm.Cond := Jvm.Cond.code x code maxLocals ret :: tables_1
/-- a 'code' word, met by the world's own term for the bytes: nothing is compared byte by byte -/
theorem code_word {y : MethodName} {bytes : ByteArray} {mx : Nat} {rt : Option FieldType} {a : Array Value} {s : State} {m : MethodId} {meth : Method} {c : Code} (h1 : s.methodNamed? y = some m) (h2 : s.vm.method? m = some meth) (h3 : meth.code = some c) (h4 : c.code = bytes)
    (h5 : (c.maxLocals == mx && c.exceptionTable.isEmpty && decide (c.maxStack ≤ mostOperands) && decide (meth.sig.returnType = rt) && !meth.locks && decide (parseMethodDescriptor y.desc = some meth.sig)) = true) : (Jvm.Cond.code y bytes mx rt).before a s = true := by
  simp only [Bool.and_eq_true, beq_iff_eq, Bool.not_eq_true', decide_eq_true_eq] at h5
  obtain ⟨⟨⟨⟨⟨g1, g2⟩, g3⟩, g4⟩, g5⟩, g6⟩ := h5
  simp [Cond.before, Cond.holds, Cond.value, h1, h2, h3, h4, g1, g2, g3, g4, g5, g6]
def isCode : Jvm.Cond → Bool
  | .code _ _ _ _ => true
  | _ => false
theorem all_split {L : List Jvm.Cond} {P : Jvm.Cond → Bool} (h1 : L.all (fun c => isCode c || P c) = true) (h2 : ∀ c ∈ L.filter isCode, P c = true) : L.all P = true := by
  refine List.all_eq_true.mpr fun c hc => ?_
  have h := List.all_eq_true.mp h1 c hc
  rcases Bool.eq_false_or_eq_true (isCode c) with hi | hi
  · exact h2 c (List.mem_filter.mpr ⟨hc, hi⟩)
  · simpa [hi] using h
set_option maxRecDepth 65536 in
theorem w_c0 : (Jvm.Cond.code x code maxLocals ret).before args0 about1 = true := code_word (m := ⟨1, 1⟩) (meth := k1m1) (c := k1c1) (by decide +kernel) rfl rfl rfl (by decide +kernel)
set_option maxRecDepth 65536 in
theorem w_c1 : (Jvm.Cond.code ({ cls := "java/lang/String", name := "<init>", desc := "([C)V" } : Jvm.MethodName) jdk_42_method_3_code (2 : Nat) (Option.none : Option Jvm.ClassFile.FieldType)).before args0 about1 = true := code_word (m := ⟨7, 1⟩) (meth := k7m1) (c := k7c1) (by decide +kernel) rfl rfl rfl (by decide +kernel)
set_option maxRecDepth 65536 in
theorem w_c2 : (Jvm.Cond.code ({ cls := "java/lang/String", name := "<init>", desc := "([CIILjava/lang/Void;)V" } : Jvm.MethodName) jdk_42_method_149_code (6 : Nat) (Option.none : Option Jvm.ClassFile.FieldType)).before args0 about1 = true := code_word (m := ⟨7, 3⟩) (meth := k7m3) (c := k7c3) (by decide +kernel) rfl rfl rfl (by decide +kernel)
set_option maxRecDepth 65536 in
theorem w_c3 : (Jvm.Cond.code ({ cls := "java/lang/Object", name := "<init>", desc := "()V" } : Jvm.MethodName) object_method_1_code (1 : Nat) (Option.none : Option Jvm.ClassFile.FieldType)).before args0 about1 = true := code_word (m := ⟨0, 0⟩) (meth := k0m0) (c := k0c0) (by decide +kernel) rfl rfl rfl (by decide +kernel)
set_option maxRecDepth 65536 in
theorem w_c4 : (Jvm.Cond.code ({ cls := "java/lang/StringUTF16", name := "compress", desc := "([CII)[B" } : Jvm.MethodName) jdk_52_method_16_code (6 : Nat) (Option.some (Jvm.ClassFile.FieldType.array Jvm.ClassFile.FieldType.byte))).before args0 about1 = true := code_word (m := ⟨8, 2⟩) (meth := k8m2) (c := k8c2) (by decide +kernel) rfl rfl rfl (by decide +kernel)
set_option maxRecDepth 65536 in
theorem w_c5 : (Jvm.Cond.code ({ cls := "java/lang/StringUTF16", name := "compress", desc := "([CI[BII)I" } : Jvm.MethodName) jdk_52_method_21_code (7 : Nat) (Option.some Jvm.ClassFile.FieldType.int)).before args0 about1 = true := code_word (m := ⟨8, 3⟩) (meth := k8m3) (c := k8c3) (by decide +kernel) rfl rfl rfl (by decide +kernel)
set_option maxRecDepth 65536 in
theorem w_c6 : (Jvm.Cond.code ({ cls := "java/lang/StringUTF16", name := "coderFromArrayLen", desc := "([BI)B" } : Jvm.MethodName) jdk_52_method_15_code (2 : Nat) (Option.some Jvm.ClassFile.FieldType.byte)).before args0 about1 = true := code_word (m := ⟨8, 1⟩) (meth := k8m1) (c := k8c1) (by decide +kernel) rfl rfl rfl (by decide +kernel)
set_option maxRecDepth 65536 in
theorem w_c7 : (Jvm.Cond.code ({ cls := "com/example/nestwarden/nestwarden/store/Journal$Change", name := "keep", desc := "(Ljava/lang/String;[B)Lcom/example/nestwarden/nestwarden/store/Journal$Change;" } : Jvm.MethodName) prog_49_method_2_code (2 : Nat) (Option.some (Jvm.ClassFile.FieldType.object "com/example/nestwarden/nestwarden/store/Journal$Change"))).before args0 about1 = true := code_word (m := ⟨10, 1⟩) (meth := k10m1) (c := k10c1) (by decide +kernel) rfl rfl rfl (by decide +kernel)
set_option maxRecDepth 65536 in
theorem w_c8 : (Jvm.Cond.code ({ cls := "com/example/nestwarden/nestwarden/store/Journal$Change", name := "<init>", desc := "(Ljava/lang/String;[B)V" } : Jvm.MethodName) prog_49_method_1_code (3 : Nat) (Option.none : Option Jvm.ClassFile.FieldType)).before args0 about1 = true := code_word (m := ⟨10, 0⟩) (meth := k10m0) (c := k10c0) (by decide +kernel) rfl rfl rfl (by decide +kernel)
set_option maxRecDepth 65536 in
theorem w_c9 : (Jvm.Cond.code ({ cls := "java/lang/Record", name := "<init>", desc := "()V" } : Jvm.MethodName) jdk_30_method_1_code (1 : Nat) (Option.none : Option Jvm.ClassFile.FieldType)).before args0 about1 = true := code_word (m := ⟨9, 0⟩) (meth := k9m0) (c := k9c0) (by decide +kernel) rfl rfl rfl (by decide +kernel)
set_option maxRecDepth 65536 in
theorem w_c10 : (Jvm.Cond.code ({ cls := "com/example/nestwarden/nestwarden/store/Journal$Change", name := "key", desc := "()Ljava/lang/String;" } : Jvm.MethodName) prog_49_method_7_code (1 : Nat) (Option.some (Jvm.ClassFile.FieldType.object "java/lang/String"))).before args0 about1 = true := code_word (m := ⟨10, 2⟩) (meth := k10m2) (c := k10c2) (by decide +kernel) rfl rfl rfl (by decide +kernel)
set_option maxRecDepth 65536 in
theorem w_c11 : (Jvm.Cond.code ({ cls := "com/example/nestwarden/nestwarden/store/Journal$Change", name := "record", desc := "()[B" } : Jvm.MethodName) prog_49_method_8_code (1 : Nat) (Option.some (Jvm.ClassFile.FieldType.array Jvm.ClassFile.FieldType.byte))).before args0 about1 = true := code_word (m := ⟨10, 3⟩) (meth := k10m3) (c := k10c3) (by decide +kernel) rfl rfl rfl (by decide +kernel)
set_option maxRecDepth 65536 in
theorem w_c12 : (Jvm.Cond.code ({ cls := "java/lang/String", name := "equals", desc := "(Ljava/lang/Object;)Z" } : Jvm.MethodName) jdk_42_method_66_code (3 : Nat) (Option.some Jvm.ClassFile.FieldType.boolean)).before args0 about1 = true := code_word (m := ⟨7, 2⟩) (meth := k7m2) (c := k7c2) (by decide +kernel) rfl rfl rfl (by decide +kernel)
set_option maxRecDepth 65536 in
theorem w_c13 : (Jvm.Cond.code ({ cls := "com/example/nestwarden/nestwarden/store/ChangeKeepPinLaw", name := "same", desc := "([BBBB)Z" } : Jvm.MethodName) method_3_code (4 : Nat) (Option.some Jvm.ClassFile.FieldType.boolean)).before args0 about1 = true := code_word (m := ⟨1, 2⟩) (meth := k1m2) (c := k1c2) (by decide +kernel) rfl rfl rfl (by decide +kernel)
set_option maxRecDepth 65536 in
theorem w_c14 : (Jvm.Cond.code ({ cls := "com/example/nestwarden/nestwarden/store/ChangeKeepPinLaw", name := "flip", desc := "([B)V" } : Jvm.MethodName) method_4_code (1 : Nat) (Option.none : Option Jvm.ClassFile.FieldType)).before args0 about1 = true := code_word (m := ⟨1, 3⟩) (meth := k1m3) (c := k1c3) (by decide +kernel) rfl rfl rfl (by decide +kernel)
def codes1 : List Jvm.Cond := [Jvm.Cond.code x code maxLocals ret, Jvm.Cond.code ({ cls := "java/lang/String", name := "<init>", desc := "([C)V" } : Jvm.MethodName) jdk_42_method_3_code (2 : Nat) (Option.none : Option Jvm.ClassFile.FieldType), Jvm.Cond.code ({ cls := "java/lang/String", name := "<init>", desc := "([CIILjava/lang/Void;)V" } : Jvm.MethodName) jdk_42_method_149_code (6 : Nat) (Option.none : Option Jvm.ClassFile.FieldType), Jvm.Cond.code ({ cls := "java/lang/Object", name := "<init>", desc := "()V" } : Jvm.MethodName) object_method_1_code (1 : Nat) (Option.none : Option Jvm.ClassFile.FieldType), Jvm.Cond.code ({ cls := "java/lang/StringUTF16", name := "compress", desc := "([CII)[B" } : Jvm.MethodName) jdk_52_method_16_code (6 : Nat) (Option.some (Jvm.ClassFile.FieldType.array Jvm.ClassFile.FieldType.byte)), Jvm.Cond.code ({ cls := "java/lang/StringUTF16", name := "compress", desc := "([CI[BII)I" } : Jvm.MethodName) jdk_52_method_21_code (7 : Nat) (Option.some Jvm.ClassFile.FieldType.int), Jvm.Cond.code ({ cls := "java/lang/StringUTF16", name := "coderFromArrayLen", desc := "([BI)B" } : Jvm.MethodName) jdk_52_method_15_code (2 : Nat) (Option.some Jvm.ClassFile.FieldType.byte), Jvm.Cond.code ({ cls := "com/example/nestwarden/nestwarden/store/Journal$Change", name := "keep", desc := "(Ljava/lang/String;[B)Lcom/example/nestwarden/nestwarden/store/Journal$Change;" } : Jvm.MethodName) prog_49_method_2_code (2 : Nat) (Option.some (Jvm.ClassFile.FieldType.object "com/example/nestwarden/nestwarden/store/Journal$Change")), Jvm.Cond.code ({ cls := "com/example/nestwarden/nestwarden/store/Journal$Change", name := "<init>", desc := "(Ljava/lang/String;[B)V" } : Jvm.MethodName) prog_49_method_1_code (3 : Nat) (Option.none : Option Jvm.ClassFile.FieldType), Jvm.Cond.code ({ cls := "java/lang/Record", name := "<init>", desc := "()V" } : Jvm.MethodName) jdk_30_method_1_code (1 : Nat) (Option.none : Option Jvm.ClassFile.FieldType), Jvm.Cond.code ({ cls := "com/example/nestwarden/nestwarden/store/Journal$Change", name := "key", desc := "()Ljava/lang/String;" } : Jvm.MethodName) prog_49_method_7_code (1 : Nat) (Option.some (Jvm.ClassFile.FieldType.object "java/lang/String")), Jvm.Cond.code ({ cls := "com/example/nestwarden/nestwarden/store/Journal$Change", name := "record", desc := "()[B" } : Jvm.MethodName) prog_49_method_8_code (1 : Nat) (Option.some (Jvm.ClassFile.FieldType.array Jvm.ClassFile.FieldType.byte)), Jvm.Cond.code ({ cls := "java/lang/String", name := "equals", desc := "(Ljava/lang/Object;)Z" } : Jvm.MethodName) jdk_42_method_66_code (3 : Nat) (Option.some Jvm.ClassFile.FieldType.boolean), Jvm.Cond.code ({ cls := "com/example/nestwarden/nestwarden/store/ChangeKeepPinLaw", name := "same", desc := "([BBBB)Z" } : Jvm.MethodName) method_3_code (4 : Nat) (Option.some Jvm.ClassFile.FieldType.boolean), Jvm.Cond.code ({ cls := "com/example/nestwarden/nestwarden/store/ChangeKeepPinLaw", name := "flip", desc := "([B)V" } : Jvm.MethodName) method_4_code (1 : Nat) (Option.none : Option Jvm.ClassFile.FieldType)]
set_option maxRecDepth 65536 in
theorem codes_eq : words1.filter isCode = codes1 := rfl
theorem w_codes : ∀ c ∈ words1.filter isCode, c.before args0 about1 = true := by
  rw [codes_eq]
  intro c hc
  simp only [codes1, List.mem_cons, List.not_mem_nil, or_false] at hc
  rcases hc with rfl | rfl | rfl | rfl | rfl | rfl | rfl | rfl | rfl | rfl | rfl | rfl | rfl | rfl | rfl
  · exact w_c0
  · exact w_c1
  · exact w_c2
  · exact w_c3
  · exact w_c4
  · exact w_c5
  · exact w_c6
  · exact w_c7
  · exact w_c8
  · exact w_c9
  · exact w_c10
  · exact w_c11
  · exact w_c12
  · exact w_c13
  · exact w_c14
set_option maxRecDepth 65536 in
theorem w_t1 : (words1.take 24).all (fun c => isCode c || c.before args0 about1) = true := by decide +kernel
set_option maxRecDepth 65536 in
theorem w_t2 : ((words1.drop 24).take 24).all (fun c => isCode c || c.before args0 about1) = true := by decide +kernel
set_option maxRecDepth 65536 in
theorem w_t3 : (((words1.drop 24).drop 24).take 24).all (fun c => isCode c || c.before args0 about1) = true := by decide +kernel
set_option maxRecDepth 65536 in
theorem w_t4 : (((words1.drop 24).drop 24).drop 24).all (fun c => isCode c || c.before args0 about1) = true := by decide +kernel
theorem w_tables : (allAtoms (Jvm.Cond.code x code maxLocals ret :: tables_1)).before args0 about1 = true := by
  rw [allAtoms_all]
  show words1.all (fun c => c.before args0 about1) = true
  refine all_split ?_ w_codes
  rw [← List.take_append_drop 24 words1, List.all_append, w_t1, ← List.take_append_drop 24 (words1.drop 24), List.all_append, w_t2, ← List.take_append_drop 24 ((words1.drop 24).drop 24), List.all_append, w_t3, w_t4]
  rfl
set_option maxRecDepth 65536 in
theorem w_rest : rest_1_c.before args0 about1 = true := by decide +kernel
set_option maxRecDepth 65536 in
theorem w_case : (Jvm.Cond.and given_1 narrow_1).before args0 about1 = true := by decide +kernel
set_option maxRecDepth 65536 in
theorem w_consts : constsHeld consts_1 about1 := Jvm.Lit.constsHeldB_iff.mp (by decide +kernel)
theorem w_applies : (headSpec (Jvm.Cond.code x code maxLocals ret :: tables_1) room_1).applies x e0.platform about1 = true :=
  (Spec.applies_iff w_frames).mpr ⟨w_running, w_runnable, w_alone, w_named, w_hears, w_ripe, w_room, w_tables⟩
theorem atStart : AtStart classFile x code maxLocals ret World_1 tables_1 room_1 Calls_1 rest_1 Pre_1 launch0 p0 e0 about1 theMethod args0 below0 :=
  ⟨lists_1, trivial, launch0.admits_env _ _ _, launch0.least_env, fairChoices_fair.cas, fairChoices_fair.clock, w_frames, w_args, w_heap, w_applies, ⟨w_consts, trivial⟩, w_rest, w_case⟩
end start1
theorem witness_1 : WitnessClaimed_1 := ⟨start1.p0, start1.e0, start1.about1, start1.theMethod, start1.args0, start1.below0, start1.atStart⟩
end Jvm.Pilot.@@N@@
